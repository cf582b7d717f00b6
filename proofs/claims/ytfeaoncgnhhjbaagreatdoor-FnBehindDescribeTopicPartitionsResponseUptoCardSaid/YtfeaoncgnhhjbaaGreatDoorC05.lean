/- A part of the proof: see the last text. -/
import Derived.Test.YtfeaoncgnhhjbaaGreatDoorC00
import Derived.Test.YtfeaoncgnhhjbaaGreatDoorC01
import Derived.Test.YtfeaoncgnhhjbaaGreatDoorC02
import Derived.Test.YtfeaoncgnhhjbaaGreatDoorC04
set_option linter.unusedSimpArgs false
set_option linter.unusedVariables false
namespace Ms
open Go.World renaming size_alloc → qI
open Ms renaming size_wr → qJ,size_drew → qK,not_noB → qL
open W renaming seqR → qA,seq → qB,regR → qC,condK → qD,block → qE,skip → qF,ret → qG,exit → qH
open Nat renaming reduceEqDiff → n0,reduceAdd → n1,reduceMul → n2,reduceSub → n3,reduceLT → n4,reduceLeDiff → n5
open Int renaming reduceEq → i0,reduceLT → i1,reduceLE → i2,reduceNeg → i3,reduceAdd → i4,reduceSub → i5,reduceMul → i6,reduceToNat → i7
set_option maxRecDepth 4000
open Go Go.Proofs
attribute [local congr] W_congr WPsq_congr WPp_congr optK_congr addrK_congr intK_congr boolK_congr sliceK_congr tupleK_congr funcK_congr Fn_congr rawK_congr takeK_congr stepK_congr convK_congr aggK_congr

def PartOk (ok : Blocks) (d : Nat) (pt : List Fld → Int → Bool → Tree → List UInt8) : Prop :=
  ∀ (fs : List Fld) (ver : Int) (flex : Bool) (t : Tree) (vs : Value) (ct : List Value) (w : World),FldsV ok w vs fs → okF d fs = true → TreeC ok w t ct → Small 4611686018427387903 t → (pt fs ver flex t).length ≤ 2 ^ 40 →
    Fn Tryz.prog 16 #[vs,.int .i64 ver,.bool flex,.agg ct.toArray] w fun r w' => OwnBy 5 w.heap.size w' r (pt fs ver flex t) ∧ Ext w w'

theorem value_ok {ok : Blocks} {d : Nat} {pt : List Fld → Int → Bool → Tree → List UInt8} (hp : PartOk ok d pt) (kind : Int) (sub : List Fld) (null : Bool) (ver : Int) (flex : Bool) (t : Tree) (vs : Value) (ct : List Value) (w : World) (hs : FldsV ok w vs sub) (hok : okF d sub = true) (ht : TreeC ok w t ct) (hsm : Small 4611686018427387903 t)
    (hlen : (valueS pt kind sub null ver flex t).length ≤ 2 ^ 40) :
    Fn Tryz.prog 50 #[.int .i64 kind,vs,.bool null,.int .i64 ver,.bool flex,.agg ct.toArray] w fun r w' => OwnBy 5 w.heap.size w' r (valueS pt kind sub null ver flex t) ∧ Ext w w' := by
  refine value_fn pt kind sub null ver flex t vs ct w hs ht hsm hlen ?_
  intro h10 w' he
  subst h10
  have e : (valueS pt 10 sub null ver flex t) = pt sub ver flex t := by simp [valueS]
  rw [e] at hlen
  exact hp sub ver flex t vs ct w' (hs.keep (he.keeps _)) hok (ht.keep (he.keeps _)) hsm hlen

theorem field_kd {ok : Blocks} {d : Nat} {pt : List Fld → Int → Bool → Tree → List UInt8} (hp : PartOk ok d pt) (f : Fld) (ver : Int) (flex : Bool) (t : Tree) (cf ct : List Value) (w : World) (hf : FldC ok w f cf) (hok : okF d f.sub = true) (ht : TreeC ok w t ct) (hsm : Small 4611686018427387903 t)
    (hlen : (fieldS pt f ver flex t).length ≤ 2 ^ 40) (h11 : f.kind ≠ 11) (h10 : ¬ (f.kind = 10 ∧ 0 ≤ f.null)) :
    Fn Tryz.prog 24 #[.agg cf.toArray,.int .i64 ver,.bool flex,.agg ct.toArray] w fun r w' => OwnBy 5 w.heap.size w' r (fieldS pt f ver flex t) ∧ Ext w w' := by
  obtain ⟨vs,rfl,hsub⟩ := hf.inv
  obtain ⟨vS,vL,vU,rfl,hn,hS,hL,hU⟩ := ht.inv
  have hl1 := hsm.s
  have hl2 := hsm.l
  have f0 := SlR.flat hsub
  have f1 := hS.flat
  have f2 := SlR.flat hL
  have f3 := SlR.flat hU
  have hE : Ext w ((w.alloc (.cells #[.int .i64 f.kind,.int .i64 f.fr,.int .i64 f.to,.int .i64 f.null,.int .i64 f.tag,.int .i64 f.df,.int .i64 f.of,vs] 45)).alloc (.cells #[.int .i64 t.n,vS,.bool t.null,vL,vU] 26)) := Upd.alloc (Upd.alloc (Upd.refl _ _) _) _
  refine fn_of_W Tryz.func24 rfl Tryz.results24 Tryz.ntmps24 rfl ?_
  repeat ((first | refine qA rfl ?_|apply qB|refine qC rfl ?_|apply qD|apply qE|apply qF|apply qG|apply qH);try simp (disch:=(first|omega|(simp only [qI,qJ,qK]<;>omega)|exact qL _)) only [go_sem,↓reduceIte,n0,reduceCtorEq,n1,n2,n3,n4,n5,i0,i1,i2,i3,i4,i5,i6,i7,f0,f1,f2,f3,cellsAt_five,cellsAt_eight])
  have hb0 : blk ((w.alloc (.cells #[.int .i64 f.kind,.int .i64 f.fr,.int .i64 f.to,.int .i64 f.null,.int .i64 f.tag,.int .i64 f.df,.int .i64 f.of,vs] 45)).alloc (.cells #[.int .i64 t.n,vS,.bool t.null,vL,vU] 26)) w.heap.size = some (#[.int .i64 f.kind,.int .i64 f.fr,.int .i64 f.to,.int .i64 f.null,.int .i64 f.tag,.int .i64 f.df,.int .i64 f.of,vs],45,(0,0)) := by
    rw [blk_alloc_old (by simp only [World.size_alloc];omega),blk_alloc_new rfl]
  have hb1 : blk ((w.alloc (.cells #[.int .i64 f.kind,.int .i64 f.fr,.int .i64 f.to,.int .i64 f.null,.int .i64 f.tag,.int .i64 f.df,.int .i64 f.of,vs] 45)).alloc (.cells #[.int .i64 t.n,vS,.bool t.null,vL,vU] 26)) (w.heap.size + 1) = some (#[.int .i64 t.n,vS,.bool t.null,vL,vU],26,(0,0)) := by
    rw [blk_alloc_new (by simp only [World.size_alloc])]
  have hz2 : ((w.alloc (.cells #[.int .i64 f.kind,.int .i64 f.fr,.int .i64 f.to,.int .i64 f.null,.int .i64 f.tag,.int .i64 f.df,.int .i64 f.of,vs] 45)).alloc (.cells #[.int .i64 t.n,vS,.bool t.null,vL,vU] 26)).heap.size = w.heap.size + 2 := by simp only [World.size_alloc]
  generalize ((w.alloc (.cells #[.int .i64 f.kind,.int .i64 f.fr,.int .i64 f.to,.int .i64 f.null,.int .i64 f.tag,.int .i64 f.df,.int .i64 f.of,vs] 45)).alloc (.cells #[.int .i64 t.n,vS,.bool t.null,vL,vU] 26)) = w2 at *
  refine (Null_fn f ver t _ _ w2 (FldC.of (hsub.keep (hE.keeps _))) (ht.keep (hE.keeps _))).mono ?_
  rintro v3 w3 ⟨rfl,hE3⟩
  have hE03 : Ext w w3 := hE.trans hE3
  have hz3 := hE3.size
  have hb03 := hE3.blk_some hb0 id
  have hb13 := hE3.blk_some hb1 id
  have e : fieldS pt f ver flex t = valueS pt f.kind f.sub (nullS f ver t) ver flex t := by simp [fieldS,h11,h10]
  rw [e] at hlen ⊢
  by_cases hk : f.kind = 10
  · have hn0 : ¬ 0 ≤ f.null := fun h => h10 ⟨hk,h⟩
    have g1 : (f.kind == 10) = true := by simp [hk]
    repeat ((first | refine qA rfl ?_|apply qB|refine qC rfl ?_|apply qD|apply qE|apply qF|apply qG|apply qH);try simp (disch:=(first|omega|(simp only [qI,qJ,qK]<;>omega)|exact qL _)) only [go_sem,↓reduceIte,n0,reduceCtorEq,n1,n2,n3,n4,n5,i0,i1,i2,i3,i4,i5,i6,i7,hb03,hb13,cellsAt_five])
    refine (value_ok hp f.kind f.sub (nullS f ver t) ver flex t vs _ w3 (hsub.keep (hE03.keeps _)) hok (ht.keep (hE03.keeps _)) hsm hlen).mono ?_
    rintro v4 w4 ⟨ho4,hE4⟩
    repeat ((first | refine qA rfl ?_|apply qB|refine qC rfl ?_|apply qD|apply qE|apply qF|apply qG|apply qH);try simp (disch:=(first|omega|(simp only [qI,qJ,qK]<;>omega)|exact qL _)) only [go_sem,↓reduceIte,n0,reduceCtorEq,n1,n2,n3,n4,n5,i0,i1,i2,i3,i4,i5,i6,i7])
    exact ⟨ho4.mono (by omega),hE03.trans hE4⟩
  · repeat ((first | refine qA rfl ?_|apply qB|refine qC rfl ?_|apply qD|apply qE|apply qF|apply qG|apply qH);try simp (disch:=(first|omega|(simp only [qI,qJ,qK]<;>omega)|exact qL _)) only [go_sem,↓reduceIte,n0,reduceCtorEq,n1,n2,n3,n4,n5,i0,i1,i2,i3,i4,i5,i6,i7,hb03,hb13,cellsAt_five])
    refine (value_ok hp f.kind f.sub (nullS f ver t) ver flex t vs _ w3 (hsub.keep (hE03.keeps _)) hok (ht.keep (hE03.keeps _)) hsm hlen).mono ?_
    rintro v4 w4 ⟨ho4,hE4⟩
    repeat ((first | refine qA rfl ?_|apply qB|refine qC rfl ?_|apply qD|apply qE|apply qF|apply qG|apply qH);try simp (disch:=(first|omega|(simp only [qI,qJ,qK]<;>omega)|exact qL _)) only [go_sem,↓reduceIte,n0,reduceCtorEq,n1,n2,n3,n4,n5,i0,i1,i2,i3,i4,i5,i6,i7])
    exact ⟨ho4.mono (by omega),hE03.trans hE4⟩

theorem field_k10 {ok : Blocks} {d : Nat} {pt : List Fld → Int → Bool → Tree → List UInt8} (hp : PartOk ok d pt) (f : Fld) (ver : Int) (flex : Bool) (t : Tree) (cf ct : List Value) (w : World) (hf : FldC ok w f cf) (hok : okF d f.sub = true) (ht : TreeC ok w t ct) (hsm : Small 4611686018427387903 t)
    (hlen : (fieldS pt f ver flex t).length ≤ 2 ^ 40) (h10 : f.kind = 10) (hn0 : 0 ≤ f.null) :
    Fn Tryz.prog 24 #[.agg cf.toArray,.int .i64 ver,.bool flex,.agg ct.toArray] w fun r w' => OwnBy 5 w.heap.size w' r (fieldS pt f ver flex t) ∧ Ext w w' := by
  obtain ⟨vs,rfl,hsub⟩ := hf.inv
  obtain ⟨vS,vL,vU,rfl,hn,hS,hL,hU⟩ := ht.inv
  have hl1 := hsm.s
  have hl2 := hsm.l
  have f0 := SlR.flat hsub
  have f1 := hS.flat
  have f2 := SlR.flat hL
  have f3 := SlR.flat hU
  have hE : Ext w ((w.alloc (.cells #[.int .i64 f.kind,.int .i64 f.fr,.int .i64 f.to,.int .i64 f.null,.int .i64 f.tag,.int .i64 f.df,.int .i64 f.of,vs] 45)).alloc (.cells #[.int .i64 t.n,vS,.bool t.null,vL,vU] 26)) := Upd.alloc (Upd.alloc (Upd.refl _ _) _) _
  refine fn_of_W Tryz.func24 rfl Tryz.results24 Tryz.ntmps24 rfl ?_
  repeat ((first | refine qA rfl ?_|apply qB|refine qC rfl ?_|apply qD|apply qE|apply qF|apply qG|apply qH);try simp (disch:=(first|omega|(simp only [qI,qJ,qK]<;>omega)|exact qL _)) only [go_sem,↓reduceIte,n0,reduceCtorEq,n1,n2,n3,n4,n5,i0,i1,i2,i3,i4,i5,i6,i7,f0,f1,f2,f3,cellsAt_five,cellsAt_eight])
  have hb0 : blk ((w.alloc (.cells #[.int .i64 f.kind,.int .i64 f.fr,.int .i64 f.to,.int .i64 f.null,.int .i64 f.tag,.int .i64 f.df,.int .i64 f.of,vs] 45)).alloc (.cells #[.int .i64 t.n,vS,.bool t.null,vL,vU] 26)) w.heap.size = some (#[.int .i64 f.kind,.int .i64 f.fr,.int .i64 f.to,.int .i64 f.null,.int .i64 f.tag,.int .i64 f.df,.int .i64 f.of,vs],45,(0,0)) := by
    rw [blk_alloc_old (by simp only [World.size_alloc];omega),blk_alloc_new rfl]
  have hb1 : blk ((w.alloc (.cells #[.int .i64 f.kind,.int .i64 f.fr,.int .i64 f.to,.int .i64 f.null,.int .i64 f.tag,.int .i64 f.df,.int .i64 f.of,vs] 45)).alloc (.cells #[.int .i64 t.n,vS,.bool t.null,vL,vU] 26)) (w.heap.size + 1) = some (#[.int .i64 t.n,vS,.bool t.null,vL,vU],26,(0,0)) := by
    rw [blk_alloc_new (by simp only [World.size_alloc])]
  have hz2 : ((w.alloc (.cells #[.int .i64 f.kind,.int .i64 f.fr,.int .i64 f.to,.int .i64 f.null,.int .i64 f.tag,.int .i64 f.df,.int .i64 f.of,vs] 45)).alloc (.cells #[.int .i64 t.n,vS,.bool t.null,vL,vU] 26)).heap.size = w.heap.size + 2 := by simp only [World.size_alloc]
  generalize ((w.alloc (.cells #[.int .i64 f.kind,.int .i64 f.fr,.int .i64 f.to,.int .i64 f.null,.int .i64 f.tag,.int .i64 f.df,.int .i64 f.of,vs] 45)).alloc (.cells #[.int .i64 t.n,vS,.bool t.null,vL,vU] 26)) = w2 at *
  refine (Null_fn f ver t _ _ w2 (FldC.of (hsub.keep (hE.keeps _))) (ht.keep (hE.keeps _))).mono ?_
  rintro v3 w3 ⟨rfl,hE3⟩
  have hE03 : Ext w w3 := hE.trans hE3
  have hz3 := hE3.size
  have hb03 := hE3.blk_some hb0 id
  have hb13 := hE3.blk_some hb1 id
  have h11 : f.kind ≠ 11 := by omega
  cases hnul : nullS f ver t with
  | true =>
    repeat ((first | refine qA rfl ?_|apply qB|refine qC rfl ?_|apply qD|apply qE|apply qF|apply qG|apply qH);try simp (disch:=(first|omega|(simp only [qI,qJ,qK]<;>omega)|exact qL _)) only [go_sem,↓reduceIte,n0,reduceCtorEq,n1,n2,n3,n4,n5,i0,i1,i2,i3,i4,i5,i6,i7,hb03,hb13,hnul])
    refine (Fixed_fn (-1) 1 (by omega) _).mono ?_
    rintro v4 w4 ⟨ho4,hE4⟩
    repeat ((first | refine qA rfl ?_|apply qB|refine qC rfl ?_|apply qD|apply qE|apply qF|apply qG|apply qH);try simp (disch:=(first|omega|(simp only [qI,qJ,qK]<;>omega)|exact qL _)) only [go_sem,↓reduceIte,n0,reduceCtorEq,n1,n2,n3,n4,n5,i0,i1,i2,i3,i4,i5,i6,i7])
    refine ⟨?_,hE03.trans hE4⟩
    simp only [fieldS,h10,hn0,hnul]
    exact ho4.mono (by omega)
  | false =>
    repeat ((first | refine qA rfl ?_|apply qB|refine qC rfl ?_|apply qD|apply qE|apply qF|apply qG|apply qH);try simp (disch:=(first|omega|(simp only [qI,qJ,qK]<;>omega)|exact qL _)) only [go_sem,↓reduceIte,n0,reduceCtorEq,n1,n2,n3,n4,n5,i0,i1,i2,i3,i4,i5,i6,i7,hb03,hb13,hnul])
    have hlp : (pt f.sub ver flex t).length ≤ 2 ^ 40 := by
      simp [fieldS,h10,hn0,hnul] at hlen;omega
    refine W.drawR (.take 1 (.take 2 (.take 3 (.take 4 (.take 5 (.only 0 (.only 6 (.only 7 (.only 8 .done))))))))) NoB mixed (by kernel_rfl) ?_
    simp (disch:=(first|omega|(simp only [qI,qJ,qK]<;>omega)|exact qL _)) only [go_sem,↓reduceIte,n0,reduceCtorEq,n1,n2,n3,n4,n5,i0,i1,i2,i3,i4,i5,i6,i7,hb03,hb13,cellsAt_five]
    have hE3d : Ext w w3.drew := hE03.drew
    refine (Fixed_fn 1 1 (by omega) _).mono ?_
    rintro v4 w4 ⟨ho4,hE4⟩
    have hE04 : Ext w w4 := hE3d.trans hE4
    have hsz4 := hE4.size
    simp only [size_drew] at hsz4
    refine ⟨hE4,?_⟩
    refine (hp f.sub ver flex t vs _ w4 (hsub.keep (hE04.keeps _)) hok (ht.keep (hE04.keeps _)) hsm hlp).mono ?_
    rintro v5 w5 ⟨ho5,hE5⟩
    have hsz5 := hE5.size
    have ho45 := ho4.upd hE5 (fun _ _ h => h)
    refine ⟨hE4.trans hE5,?_⟩
    refine wp_append ap_22_22 (m := (pt f.sub ver flex t).length) (news := (pt f.sub ver flex t).map byteV) (n := (fixedS 1 1).length) (cs := (fixedS 1 1).map byteV) (v := v4) ?_ rfl (ho45.mono (B' := w.heap.size) (by simp only [size_drew];omega)) (flat_bytes _) ?_ ?_ ?_ ?_
    · simp (disch:=(first|omega|(simp only [qI,qJ,qK]<;>omega)|exact qL _)) only [go_sem,↓reduceIte,n0,reduceCtorEq,n1,n2,n3,n4,n5,i0,i1,i2,i3,i4,i5,i6,i7]
    · simp (disch:=(first|omega|(simp only [qI,qJ,qK]<;>omega)|exact qL _)) only [go_sem,↓reduceIte,n0,reduceCtorEq,n1,n2,n3,n4,n5,i0,i1,i2,i3,i4,i5,i6,i7]
      exact (Own.bytes (ok := AnyB) ho5 fun _ _ => trivial).src
    · omega
    · rw [fixedS_len];omega
    intro v' w6 ho6 hu hfr
    have hE56 : Upd NoB w3.drew w6 := Ext.own (hE4.trans hE5) ho4 hu
    simp (disch:=(first|omega|(simp only [qI,qJ,qK]<;>omega)|exact qL _)) only [go_sem,↓reduceIte,n0,reduceCtorEq,n1,n2,n3,n4,n5,i0,i1,i2,i3,i4,i5,i6,i7]
    refine ⟨hE56,hE56,?_⟩
    repeat ((first | refine qA rfl ?_|apply qB|refine qC rfl ?_|apply qD|apply qE|apply qF|apply qG|apply qH);try simp (disch:=(first|omega|(simp only [qI,qJ,qK]<;>omega)|exact qL _)) only [go_sem,↓reduceIte,n0,reduceCtorEq,n1,n2,n3,n4,n5,i0,i1,i2,i3,i4,i5,i6,i7])
    refine ⟨?_,hE3d.trans hE56⟩
    simp only [fieldS,h10,hn0,hnul]
    exact OwnBy.app (s := fixedS 1 1) (t := pt f.sub ver flex t) ho6 (by simp)

theorem field_k11 {ok : Blocks} {d : Nat} {pt : List Fld → Int → Bool → Tree → List UInt8} (hp : PartOk ok d pt) (f : Fld) (ver : Int) (flex : Bool) (t : Tree) (cf ct : List Value) (w : World) (hf : FldC ok w f cf) (hok : okF d f.sub = true) (ht : TreeC ok w t ct) (hsm : Small 4611686018427387903 t)
    (hlen : (fieldS pt f ver flex t).length ≤ 2 ^ 40) (h11 : f.kind = 11) :
    Fn Tryz.prog 24 #[.agg cf.toArray,.int .i64 ver,.bool flex,.agg ct.toArray] w fun r w' => OwnBy 5 w.heap.size w' r (fieldS pt f ver flex t) ∧ Ext w w' := by
  obtain ⟨vs,rfl,hsub⟩ := hf.inv
  obtain ⟨vS,vL,vU,rfl,hn,hS,hL,hU⟩ := ht.inv
  have hl1 := hsm.s
  have hl2 := hsm.l
  have f0 := SlR.flat hsub
  have f1 := hS.flat
  have f2 := SlR.flat hL
  have f3 := SlR.flat hU
  have hE : Ext w ((w.alloc (.cells #[.int .i64 f.kind,.int .i64 f.fr,.int .i64 f.to,.int .i64 f.null,.int .i64 f.tag,.int .i64 f.df,.int .i64 f.of,vs] 45)).alloc (.cells #[.int .i64 t.n,vS,.bool t.null,vL,vU] 26)) := Upd.alloc (Upd.alloc (Upd.refl _ _) _) _
  refine fn_of_W Tryz.func24 rfl Tryz.results24 Tryz.ntmps24 rfl ?_
  repeat ((first | refine qA rfl ?_|apply qB|refine qC rfl ?_|apply qD|apply qE|apply qF|apply qG|apply qH);try simp (disch:=(first|omega|(simp only [qI,qJ,qK]<;>omega)|exact qL _)) only [go_sem,↓reduceIte,n0,reduceCtorEq,n1,n2,n3,n4,n5,i0,i1,i2,i3,i4,i5,i6,i7,f0,f1,f2,f3,cellsAt_five,cellsAt_eight])
  have hb0 : blk ((w.alloc (.cells #[.int .i64 f.kind,.int .i64 f.fr,.int .i64 f.to,.int .i64 f.null,.int .i64 f.tag,.int .i64 f.df,.int .i64 f.of,vs] 45)).alloc (.cells #[.int .i64 t.n,vS,.bool t.null,vL,vU] 26)) w.heap.size = some (#[.int .i64 f.kind,.int .i64 f.fr,.int .i64 f.to,.int .i64 f.null,.int .i64 f.tag,.int .i64 f.df,.int .i64 f.of,vs],45,(0,0)) := by
    rw [blk_alloc_old (by simp only [World.size_alloc];omega),blk_alloc_new rfl]
  have hb1 : blk ((w.alloc (.cells #[.int .i64 f.kind,.int .i64 f.fr,.int .i64 f.to,.int .i64 f.null,.int .i64 f.tag,.int .i64 f.df,.int .i64 f.of,vs] 45)).alloc (.cells #[.int .i64 t.n,vS,.bool t.null,vL,vU] 26)) (w.heap.size + 1) = some (#[.int .i64 t.n,vS,.bool t.null,vL,vU],26,(0,0)) := by
    rw [blk_alloc_new (by simp only [World.size_alloc])]
  have hz2 : ((w.alloc (.cells #[.int .i64 f.kind,.int .i64 f.fr,.int .i64 f.to,.int .i64 f.null,.int .i64 f.tag,.int .i64 f.df,.int .i64 f.of,vs] 45)).alloc (.cells #[.int .i64 t.n,vS,.bool t.null,vL,vU] 26)).heap.size = w.heap.size + 2 := by simp only [World.size_alloc]
  generalize ((w.alloc (.cells #[.int .i64 f.kind,.int .i64 f.fr,.int .i64 f.to,.int .i64 f.null,.int .i64 f.tag,.int .i64 f.df,.int .i64 f.of,vs] 45)).alloc (.cells #[.int .i64 t.n,vS,.bool t.null,vL,vU] 26)) = w2 at *
  refine (Null_fn f ver t _ _ w2 (FldC.of (hsub.keep (hE.keeps _))) (ht.keep (hE.keeps _))).mono ?_
  rintro v3 w3 ⟨rfl,hE3⟩
  have hE03 : Ext w w3 := hE.trans hE3
  have hz3 := hE3.size
  have hb03 := hE3.blk_some hb0 id
  have hb13 := hE3.blk_some hb1 id
  obtain ⟨vl0,cl0,rfl,hcl0⟩ := SlR.shape hL
  repeat ((first | refine qA rfl ?_|apply qB|refine qC rfl ?_|apply qD|apply qE|apply qF|apply qG|apply qH);try simp (disch:=(first|omega|(simp only [qI,qJ,qK]<;>omega)|exact qL _)) only [go_sem,↓reduceIte,n0,reduceCtorEq,n1,n2,n3,n4,n5,i0,i1,i2,i3,i4,i5,i6,i7,hb03,hb13])
  refine (things_fn t.l _ w3 (hL.keep (hE03.keeps _))).mono ?_
  rintro v4 w4 ⟨hL4,hw43⟩
  obtain rfl := hw43.symm
  obtain ⟨bl,cl,rfl,hcl⟩ := SlR.shape hL4
  have hlt : (thingsS t.l).length ≤ 32767 := by simp only [thingsS,List.length_take];omega
  have hsml : ∀ x ∈ thingsS t.l,Small 4611686018427387903 x := fun x hx => by
    obtain ⟨i,hi,rfl⟩ := List.getElem_of_mem (List.mem_of_mem_take hx)
    exact hsm.e i hi
  cases hnul : nullS f ver t with
  | true =>
    repeat ((first | refine qA rfl ?_|apply qB|refine qC rfl ?_|apply qD|apply qE|apply qF|apply qG|apply qH);try simp (disch:=(first|omega|(simp only [qI,qJ,qK]<;>omega)|exact qL _)) only [go_sem,↓reduceIte,n0,reduceCtorEq,n1,n2,n3,n4,n5,i0,i1,i2,i3,i4,i5,i6,i7,hnul])
    refine (counted_fn flex true 0 4 (by omega) (by omega) _).mono ?_
    rintro v5 w5 ⟨ho5,hE5⟩
    have hcl5 := countedS_len flex true 0 4 (by omega) (by omega)
    repeat ((first | refine qA rfl ?_|apply qB|refine qC rfl ?_|apply qD|apply qE|apply qF|apply qG|apply qH);try simp (disch:=(first|omega|(simp only [qI,qJ,qK]<;>omega)|exact qL _)) only [go_sem,↓reduceIte,n0,reduceCtorEq,n1,n2,n3,n4,n5,i0,i1,i2,i3,i4,i5,i6,i7])
    refine W.exitJ 0 (fun ρ' w' => ρ' 11 = v5 ∧ w' = w5) (W.loop (fun ρ' w' => ρ' 11 = v5 ∧ w' = w5 ∧ ρ' 31 = .int .i64 0 ∧ ρ' 30 = .int .i64 0) (fun _ _ => 0) ?_ ?_) ?_
    · refine ⟨?_,rfl,?_,?_⟩ <;> simp (disch:=(first|omega|(simp only [qI,qJ,qK]<;>omega)|exact qL _)) only [go_sem,↓reduceIte,n0,reduceCtorEq,n1,n2,n3,n4,n5,i0,i1,i2,i3,i4,i5,i6,i7]
      all_goals rfl
    · rintro ρ6 w6 ⟨h6,rfl,h31,h30⟩
      repeat ((first | refine qA rfl ?_|apply qB|refine qC rfl ?_|apply qD|apply qE|apply qF|apply qG|apply qH);try simp (disch:=(first|omega|(simp only [qI,qJ,qK]<;>omega)|exact qL _)) only [go_sem,↓reduceIte,n0,reduceCtorEq,n1,n2,n3,n4,n5,i0,i1,i2,i3,i4,i5,i6,i7,h31,h30])
      exact h6
    · rintro ρ6 w6 ⟨h6,rfl⟩
      simp (disch:=(first|omega|(simp only [qI,qJ,qK]<;>omega)|exact qL _)) only [go_sem,↓reduceIte,n0,reduceCtorEq,n1,n2,n3,n4,n5,i0,i1,i2,i3,i4,i5,i6,i7]
      repeat ((first | refine qA rfl ?_|apply qB|refine qC rfl ?_|apply qD|apply qE|apply qF|apply qG|apply qH);try simp (disch:=(first|omega|(simp only [qI,qJ,qK]<;>omega)|exact qL _)) only [go_sem,↓reduceIte,n0,reduceCtorEq,n1,n2,n3,n4,n5,i0,i1,i2,i3,i4,i5,i6,i7,h6])
      refine ⟨?_,hE03.trans hE5⟩
      have e : fieldS pt f ver flex t = countedS flex true 0 4 := by simp [fieldS,h11,hnul]
      rw [e]
      exact ho5.mono (by omega)
  | false =>
    repeat ((first | refine qA rfl ?_|apply qB|refine qC rfl ?_|apply qD|apply qE|apply qF|apply qG|apply qH);try simp (disch:=(first|omega|(simp only [qI,qJ,qK]<;>omega)|exact qL _)) only [go_sem,↓reduceIte,n0,reduceCtorEq,n1,n2,n3,n4,n5,i0,i1,i2,i3,i4,i5,i6,i7,hnul])
    refine (counted_fn flex false (thingsS t.l).length 4 (by omega) (by omega) _).mono ?_
    rintro v5 w5 ⟨ho5,hE5⟩
    have hcl5 := countedS_len flex false (thingsS t.l).length 4 (by omega) (by omega)
    have hz5 := hE5.size
    have e : fieldS pt f ver flex t = countedS flex false (thingsS t.l).length 4 ++ (thingsS t.l).flatMap fun x => valueS pt f.of f.sub false ver flex x := by simp [fieldS,h11,hnul]
    rw [e] at hlen ⊢
    repeat ((first | refine qA rfl ?_|apply qB|refine qC rfl ?_|apply qD|apply qE|apply qF|apply qG|apply qH);try simp (disch:=(first|omega|(simp only [qI,qJ,qK]<;>omega)|exact qL _)) only [go_sem,↓reduceIte,n0,reduceCtorEq,n1,n2,n3,n4,n5,i0,i1,i2,i3,i4,i5,i6,i7])
    have hb05 := hE5.blk_some hb03 id
    generalize thingsS t.l = L at *
    generalize countedS flex false L.length 4 = hd at *
    refine W.loop (fun ρ w' => ∃ (j : Nat) (v : Value),j ≤ L.length ∧ ρ 31 = .int .i64 j ∧ ρ 30 = .int .i64 L.length ∧ ρ 10 = .slice bl L.length cl ∧ ρ 4 = .pointer (some ⟨w.heap.size,0,none⟩) ∧ ρ 1 = .int .i64 ver ∧ ρ 2 = .bool flex ∧ ρ 11 = v ∧
        OwnBy 5 w3.heap.size w' v (hd ++ (L.take j).flatMap fun x => valueS pt f.of f.sub false ver flex x) ∧ Ext w3 w')
      (fun ρ _ => L.length - (RowKit.intOf (ρ 31)).toNat) ?_ ?_
    · refine ⟨0,v5,Nat.zero_le _,?_,?_,?_,?_,?_,?_,?_,?_,hE5⟩
      · simp (disch:=(first|omega|(simp only [qI,qJ,qK]<;>omega)|exact qL _)) only [go_sem,↓reduceIte,n0,reduceCtorEq,n1,n2,n3,n4,n5,i0,i1,i2,i3,i4,i5,i6,i7]
        rfl
      iterate 6 (· simp (disch:=(first|omega|(simp only [qI,qJ,qK]<;>omega)|exact qL _)) only [go_sem,↓reduceIte,n0,reduceCtorEq,n1,n2,n3,n4,n5,i0,i1,i2,i3,i4,i5,i6,i7])
      · simpa using ho5
    · rintro ρ6 w6 ⟨j,v6,hj,h31,h30,h10,h4,h1,h2,h11',ho6,hE6⟩
      have hz6 := hE6.size
      by_cases hlt2 : j < L.length
      · obtain ⟨_,b,o,x,vS',vL',vU',hb,hokb,hx,hblt,hxs,hxe,g1,g2,g3,hc⟩ := TreesV.get hL4 hlt2
        subst hb
        have hx6 : blk w6 b = some x := hE6.blk_some hx id
        have hb06 : blk w6 w.heap.size = _ := hE6.blk_some hb03 id
        have hcat : (hd ++ (L.take (j + 1)).flatMap fun x => valueS pt f.of f.sub false ver flex x) = (hd ++ (L.take j).flatMap fun x => valueS pt f.of f.sub false ver flex x) ++ valueS pt f.of f.sub false ver flex L[j] := by
          rw [List.take_succ_eq_append_getElem hlt2]
          simp only [List.flatMap_append,List.flatMap_cons,List.flatMap_nil,List.append_nil,List.append_assoc]
        have hle : ((hd ++ (L.take j).flatMap fun x => valueS pt f.of f.sub false ver flex x).length + (valueS pt f.of f.sub false ver flex L[j]).length) ≤ 2 ^ 40 := by
          have h : (L.flatMap fun x => valueS pt f.of f.sub false ver flex x) = ((L.take (j + 1)).flatMap fun x => valueS pt f.of f.sub false ver flex x) ++ ((L.drop (j + 1)).flatMap fun x => valueS pt f.of f.sub false ver flex x) := by
            rw [← List.flatMap_append,List.take_append_drop]
          rw [h,← List.append_assoc,hcat] at hlen
          simp only [List.length_append] at hlen ⊢;omega
        have hnb : ∀ b,b < w3.heap.size → ¬ ownB v6 b := fun b hb h => by have := Own.above ho6 h;omega
        repeat ((first | refine qA rfl ?_|apply qB|refine qC rfl ?_|apply qD|apply qE|apply qF|apply qG|apply qH);try simp (disch:=(first|omega|(simp only [qI,qJ,qK]<;>omega)|exact qL _)) only [go_sem,↓reduceIte,n0,reduceCtorEq,n1,n2,n3,n4,n5,i0,i1,i2,i3,i4,i5,i6,i7,h31,h30])
        refine W.drawR (.take 0 (.take 1 (.take 2 (.take 3 (.take 4 (.take 5 (.take 6 (.take 7 (.take 8 (.take 9 (.take 10 (.only 11 (.only 12 (.only 13 .done)))))))))))))) (ownB v6) mixed (by kernel_rfl) ?_
        simp (disch:=(first|omega|(simp only [qI,qJ,qK]<;>omega)|exact qL _ | (refine hnb _ ?_;first | omega | (simp only [World.size_alloc,size_wr,size_drew] <;> omega)))) only [go_sem,↓reduceIte,n0,reduceCtorEq,n1,n2,n3,n4,n5,i0,i1,i2,i3,i4,i5,i6,i7,h31,h10,h4,h1,h2,h11',hx6,hxe,hb06,Int.toNat_natCast]
        have hE6d : Ext w3 w6.drew := hE6.drew
        have hE06 : Ext w w6.drew := hE03.trans hE6d
        refine (value_ok hp f.of f.sub false ver flex L[j] vs _ _ (hsub.keep (hE06.keeps _)) hok (hc.keep (hE6d.keeps _)) (hsml _ (List.getElem_mem hlt2)) (by omega)).mono ?_
        rintro v7 w7 ⟨ho7,hE7⟩
        refine ⟨hE7.mono (fun _ h => h.elim),?_⟩
        have hz7 := hE7.size
        simp only [size_drew] at hz7
        have ho67 := (ho6.upd (Upd.refl (fun _ => False) _).drew (fun _ _ h => h)).upd hE7 (fun _ _ h => h)
        generalize hs6 : (hd ++ (L.take j).flatMap fun x => valueS pt f.of f.sub false ver flex x) = s6 at *
        generalize hs7 : valueS pt f.of f.sub false ver flex L[j] = s7 at *
        refine wp_append ap_22_22 (m := s7.length) (news := s7.map byteV) (n := s6.length) (cs := s6.map byteV) (v := v6) ?_ rfl ho67 (flat_bytes _) ?_ ?_ ?_ ?_
        · simp (disch:=(first|omega|(simp only [qI,qJ,qK]<;>omega)|exact qL _)) only [go_sem,↓reduceIte,n0,reduceCtorEq,n1,n2,n3,n4,n5,i0,i1,i2,i3,i4,i5,i6,i7,h11']
        · simp (disch:=(first|omega|(simp only [qI,qJ,qK]<;>omega)|exact qL _)) only [go_sem,↓reduceIte,n0,reduceCtorEq,n1,n2,n3,n4,n5,i0,i1,i2,i3,i4,i5,i6,i7]
          exact (Own.bytes (ok := AnyB) ho7 fun _ _ => trivial).src
        · omega
        · omega
        intro v' w8 ho8 hu hfr
        have hE8 : Ext w3 w8 := Ext.own (hE6d.trans hE7) ho6 hu
        have hM8 : Upd (ownB v6) w6.drew w8 := (hE7.mono (fun _ h => h.elim)).trans hu
        simp (disch:=(first|omega|(simp only [qI,qJ,qK]<;>omega)|exact qL _)) only [go_sem,↓reduceIte,n0,reduceCtorEq,n1,n2,n3,n4,n5,i0,i1,i2,i3,i4,i5,i6,i7]
        refine ⟨hM8,hM8,?_⟩
        repeat ((first | refine qA rfl ?_|apply qB|refine qC rfl ?_|apply qD|apply qE|apply qF|apply qG|apply qH);try simp (disch:=(first|omega|(simp only [qI,qJ,qK]<;>omega)|exact qL _)) only [go_sem,↓reduceIte,n0,reduceCtorEq,n1,n2,n3,n4,n5,i0,i1,i2,i3,i4,i5,i6,i7,h31])
        refine ⟨⟨j + 1,_,by omega,rfl,h30,h10,h4,h1,h2,rfl,?_,hE8⟩,?_⟩
        · rw [hcat]
          exact OwnBy.app (s := s6) (t := s7) ho8 rfl
        · simp only [RowKit.intOf];omega
      · have hjl : j = L.length := by omega
        subst hjl
        rw [List.take_length] at ho6
        repeat ((first | refine qA rfl ?_|apply qB|refine qC rfl ?_|apply qD|apply qE|apply qF|apply qG|apply qH);try simp (disch:=(first|omega|(simp only [qI,qJ,qK]<;>omega)|exact qL _)) only [go_sem,↓reduceIte,n0,reduceCtorEq,n1,n2,n3,n4,n5,i0,i1,i2,i3,i4,i5,i6,i7,h31,h30,h11'])
        exact ⟨ho6.mono (by omega),hE03.trans hE6⟩

theorem field_fn {ok : Blocks} {d : Nat} {pt : List Fld → Int → Bool → Tree → List UInt8} (hp : PartOk ok d pt) (f : Fld) (ver : Int) (flex : Bool) (t : Tree) (cf ct : List Value) (w : World) (hf : FldC ok w f cf) (hok : okF d f.sub = true) (ht : TreeC ok w t ct) (hsm : Small 4611686018427387903 t)
    (hlen : (fieldS pt f ver flex t).length ≤ 2 ^ 40) :
    Fn Tryz.prog 24 #[.agg cf.toArray,.int .i64 ver,.bool flex,.agg ct.toArray] w fun r w' => OwnBy 5 w.heap.size w' r (fieldS pt f ver flex t) ∧ Ext w w' := by
  by_cases h11 : f.kind = 11
  · exact field_k11 hp f ver flex t cf ct w hf hok ht hsm hlen h11
  by_cases h10 : f.kind = 10 ∧ 0 ≤ f.null
  · exact field_k10 hp f ver flex t cf ct w hf hok ht hsm hlen h10.1 h10.2
  exact field_kd hp f ver flex t cf ct w hf hok ht hsm hlen h11 h10

abbrev PG (w2 : World) (N : Nat) (bf : Option Addr) (cf : Nat) (ver : Int) (flex : Bool) (tb : Nat) (ρ : Regs) (w' : World) : Prop :=
  ρ 0 = .slice bf N cf ∧ ρ 1 = .int .i64 ver ∧ ρ 2 = .bool flex ∧ ρ 7 = .pointer (some ⟨tb,0,none⟩) ∧ Ext w2 w'

set_option maxHeartbeats 1000000 in
theorem part_fn {ok : Blocks} (pt : List Fld → Int → Bool → Tree → List UInt8) (du : Nat) (fs : List Fld) (ver : Int) (flex : Bool) (t : Tree) (vf : Value) (ct : List Value) (w : World) (hf : FldsV ok w vf fs) (hfl : fs.length ≤ 1000) (htag : ∀ f ∈ fs,f.tag ≤ 1000) (ht : TreeC ok w t ct) (hsm : Small 4611686018427387903 t)
    (hfield : ∀ f ∈ fs,∀ (x : Tree) (cf cx : List Value) (w' : World),FldC ok w' f cf → TreeC ok w' x cx → Small 4611686018427387903 x → (fieldS pt f ver flex x).length ≤ 2 ^ 40 →
      Fn Tryz.prog 24 #[.agg cf.toArray,.int .i64 ver,.bool flex,.agg cx.toArray] w' fun r w'' => OwnBy 5 w'.heap.size w'' r (fieldS pt f ver flex x) ∧ Ext w' w'')
    (husual : ∀ f ∈ fs,∀ (x : Tree) (cf cx : List Value) (w' : World),FldC ok w' f cf → TreeC ok w' x cx → Small 4611686018427387903 x →
      Fn Tryz.prog 27 #[.agg cf.toArray,.agg cx.toArray] w' fun r w'' => r = .bool (usualS du f x) ∧ Ext w' w'')
    (hlen : (partT pt du fs ver flex t).length ≤ 2 ^ 40) :
    Fn Tryz.prog 16 #[vf,.int .i64 ver,.bool flex,.agg ct.toArray] w fun r w' => OwnBy 5 w.heap.size w' r (partT pt du fs ver flex t) ∧ Ext w w' := by
  obtain ⟨bf,cf,rfl,hcf⟩ := SlR.shape hf
  obtain ⟨vS,vL,vU,rfl,hn,hS,hL,hU⟩ := ht.inv
  have hl1 := hsm.s
  have hl2 := hsm.l
  have f1 := hS.flat
  have f2 := SlR.flat hL
  have f3 := SlR.flat hU
  have hpl : (plainS pt fs ver flex t).length ≤ 2 ^ 40 := by
    unfold partT at hlen
    split at hlen
    · simp only [List.length_append] at hlen;omega
    · exact hlen
  refine fn_of_W Tryz.func16 rfl Tryz.results16 Tryz.ntmps16 rfl ?_
  repeat ((first | refine qA rfl ?_|apply qB|refine qC rfl ?_|apply qD|apply qE|apply qF|apply qG|apply qH);try simp (disch:=(first|omega|(simp only [qI,qJ,qK]<;>omega)|exact qL _)) only [go_sem,↓reduceIte,n0,reduceCtorEq,n1,n2,n3,n4,n5,i0,i1,i2,i3,i4,i5,i6,i7,f1,f2,f3])
  have hE : Ext w (w.alloc (.cells #[.int .i64 t.n,vS,.bool t.null,vL,vU] 26)) := Upd.alloc (Upd.refl _ _) _
  have hb1 : blk (w.alloc (.cells #[.int .i64 t.n,vS,.bool t.null,vL,vU] 26)) w.heap.size = some (#[.int .i64 t.n,vS,.bool t.null,vL,vU],26,(0,0)) := blk_alloc_new rfl
  have hz2 : (w.alloc (.cells #[.int .i64 t.n,vS,.bool t.null,vL,vU] 26)).heap.size = w.heap.size + 1 := by simp only [World.size_alloc]
  generalize (w.alloc (.cells #[.int .i64 t.n,vS,.bool t.null,vL,vU] 26)) = w2 at *
  -- the fields without a tag
  refine W.exitJ 0 (fun ρ w' => ∃ v,ρ 9 = v ∧ ρ 10 = .slice none 0 0 ∧ ρ 11 = .int .i64 0 ∧ PG w2 fs.length bf cf ver flex w.heap.size ρ w' ∧ OwnBy 5 w2.heap.size w' v (plainS pt fs ver flex t))
    (W.loop (fun ρ w' => ∃ (j : Nat) (v : Value),j ≤ fs.length ∧ ρ 23 = .int .i64 j ∧ ρ 22 = .int .i64 fs.length ∧ ρ 21 = .slice bf fs.length cf ∧ ρ 9 = v ∧ ρ 10 = .slice none 0 0 ∧ ρ 11 = .int .i64 0 ∧ PG w2 fs.length bf cf ver flex w.heap.size ρ w' ∧ OwnBy 5 w2.heap.size w' v (plainP pt fs ver flex t j))
      (fun ρ _ => fs.length - (RowKit.intOf (ρ 23)).toNat) ?_ ?_) ?_
  · refine ⟨0,_,Nat.zero_le _,?_,?_,?_,rfl,?_,?_,⟨?_,?_,?_,?_,Upd.refl _ _⟩,?_⟩ <;> simp (disch:=(first|omega|(simp only [qI,qJ,qK]<;>omega)|exact qL _)) only [go_sem,↓reduceIte,n0,reduceCtorEq,n1,n2,n3,n4,n5,i0,i1,i2,i3,i4,i5,i6,i7]
    · rfl
    · rw [show plainP pt fs ver flex t 0 = [] from rfl];exact Own.nil _ _ _ _
  · rintro ρ w3 ⟨j,v,hj,h23,h22,h21,h9,h10,h11,⟨h0,h1,h2,h7,hE3⟩,ho⟩
    have hz3 := hE3.size
    have hE03 : Ext w w3 := hE.trans hE3
    have hb13 := hE3.blk_some hb1 id
    by_cases hlt : j < fs.length
    · obtain ⟨_,b,o,x,vs2,hb,hokb,hx,hblt,hxs,hxe,hfl2,hsub2⟩ := FldsV.get hf hlt
      subst hb
      have hx3 : blk w3 b = some x := hE03.blk_some hx id
      have hmem := List.getElem_mem hlt
      have hsn := plainP_snoc pt fs ver flex t j hlt
      have hle := plainP_le pt fs ver flex t (j + 1)
      have hE4 : Ext w3 (wr (w3.alloc (.cells #[.int .i64 0,.int .i64 0,.int .i64 0,.int .i64 0,.int .i64 0,.int .i64 0,.int .i64 0,.slice none 0 0] 45)) w3.heap.size 0 [.int .i64 fs[j].kind,.int .i64 fs[j].fr,.int .i64 fs[j].to,.int .i64 fs[j].null,.int .i64 fs[j].tag,.int .i64 fs[j].df,.int .i64 fs[j].of,vs2]) :=
        (Upd.alloc (Upd.refl _ _) _).wr _ _ (.inl (Nat.le_refl _))
      generalize fs[j] = g at *
      have hb4 : blk (wr (w3.alloc (.cells #[.int .i64 0,.int .i64 0,.int .i64 0,.int .i64 0,.int .i64 0,.int .i64 0,.int .i64 0,.slice none 0 0] 45)) w3.heap.size 0 [.int .i64 g.kind,.int .i64 g.fr,.int .i64 g.to,.int .i64 g.null,.int .i64 g.tag,.int .i64 g.df,.int .i64 g.of,vs2]) w3.heap.size = some (#[.int .i64 g.kind,.int .i64 g.fr,.int .i64 g.to,.int .i64 g.null,.int .i64 g.tag,.int .i64 g.df,.int .i64 g.of,vs2],45,(0,0)) := by
        rw [blk_wr_eq,blk_alloc_new rfl];rfl
      have hz4 : (wr (w3.alloc (.cells #[.int .i64 0,.int .i64 0,.int .i64 0,.int .i64 0,.int .i64 0,.int .i64 0,.int .i64 0,.slice none 0 0] 45)) w3.heap.size 0 [.int .i64 g.kind,.int .i64 g.fr,.int .i64 g.to,.int .i64 g.null,.int .i64 g.tag,.int .i64 g.df,.int .i64 g.of,vs2]).heap.size = w3.heap.size + 1 := by simp only [size_wr,World.size_alloc]
      by_cases htg : g.tag < 0
      · repeat ((first | refine qA rfl ?_|apply qB|refine qC rfl ?_|apply qD|apply qE|apply qF|apply qG|apply qH);try simp (disch:=(first|omega|(simp only [qI,qJ,qK]<;>omega)|exact qL _)) only [go_sem,↓reduceIte,n0,reduceCtorEq,n1,n2,n3,n4,n5,i0,i1,i2,i3,i4,i5,i6,i7,h23,h22,h21,h1,hx3,hxe,hfl2,cellsAt_eight,Int.toNat_natCast])
        generalize (wr (w3.alloc (.cells #[.int .i64 0,.int .i64 0,.int .i64 0,.int .i64 0,.int .i64 0,.int .i64 0,.int .i64 0,.slice none 0 0] 45)) w3.heap.size 0 [.int .i64 g.kind,.int .i64 g.fr,.int .i64 g.to,.int .i64 g.null,.int .i64 g.tag,.int .i64 g.df,.int .i64 g.of,vs2]) = w4 at *
        have hE04 : Ext w w4 := hE03.trans hE4
        refine (Has_fn (ok := ok) g ver _ w4 (FldC.of (hsub2.keep (hE04.keeps _)))).mono ?_
        rintro v5 w5 ⟨rfl,hE5⟩
        have hz5 := hE5.size
        have hE35 : Ext w3 w5 := hE4.trans hE5
        have hb5 := hE5.blk_some hb4 id
        have hb15 := hE35.blk_some hb13 id
        have ho5 := ho.upd hE35 (fun _ _ h => h)
        by_cases hh : hasS g ver = true
        · have hpF : plainF pt ver flex t (g,j) = fieldS pt g ver flex (t.at j) := if_pos ⟨htg,hh⟩
          rw [hpF] at hsn
          have hle2 : (plainP pt fs ver flex t j).length + (fieldS pt g ver flex (t.at j)).length ≤ 2 ^ 40 := by
            rw [hsn,List.length_append] at hle;omega
          have hnb : ∀ b,b < w2.heap.size ∨ b = w3.heap.size → ¬ ownB v b := fun b hb h => by
            have := Own.above ho h
            have := Own.below ho h
            omega
          simp (disch:=(first|omega|(simp only [qI,qJ,qK]<;>omega)|exact qL _)) only [go_sem,↓reduceIte,n0,reduceCtorEq,n1,n2,n3,n4,n5,i0,i1,i2,i3,i4,i5,i6,i7,hh]
          repeat ((first | refine qA rfl ?_|apply qB|refine qC rfl ?_|apply qD|apply qE|apply qF|apply qG|apply qH);try simp (disch:=(first|omega|(simp only [qI,qJ,qK]<;>omega)|exact qL _)) only [go_sem,↓reduceIte,n0,reduceCtorEq,n1,n2,n3,n4,n5,i0,i1,i2,i3,i4,i5,i6,i7,hh])
          refine W.drawR (.take 0 (.take 1 (.take 2 (.take 3 (.take 4 (.take 5 (.only 6 (.only 7 (.only 8 (.only 9 .done)))))))))) (ownB v) mixed (by kernel_rfl) ?_
          simp (disch:=(first|omega|(simp only [qI,qJ,qK]<;>omega)|exact qL _ | (refine hnb _ ?_;first | omega | (simp only [World.size_alloc,size_wr,size_drew] <;> omega)))) only [go_sem,↓reduceIte,n0,reduceCtorEq,n1,n2,n3,n4,n5,i0,i1,i2,i3,i4,i5,i6,i7,h9,h1,h2,h7,hb5,hb15,cellsAt_five,cellsAt_eight]
          have hE5d : Ext w3 w5.drew := hE35.drew
          have hE05d : Ext w w5.drew := hE03.trans hE5d
          refine (at_fn (ok := ok) t j _ _ (ht.keep (hE05d.keeps _)) (by omega) (by omega)).mono ?_
          rintro v6 w6 ⟨⟨c6,rfl,hc6⟩,hE6⟩
          refine ⟨hE6.mono (fun _ h => h.elim),?_⟩
          have hE06 : Ext w w6 := hE05d.trans hE6
          refine (hfield g hmem (t.at j) _ c6 w6 (FldC.of (hsub2.keep (hE06.keeps _))) hc6 (hsm.at j) (by omega)).mono ?_
          rintro v7 w7 ⟨ho7,hE7⟩
          have hE57 : Ext w5.drew w7 := hE6.trans hE7
          have hE37 : Ext w3 w7 := hE5d.trans hE57
          have hz37 := hE37.size
          have hz67 := hE57.size
          simp only [size_drew] at hz67
          refine ⟨hE57.mono (fun _ h => h.elim),?_⟩
          have ho6 := ho.upd hE37 (fun _ _ h => h)
          generalize plainP pt fs ver flex t j = s6 at *
          generalize fieldS pt g ver flex (t.at j) = s7 at *
          refine wp_append ap_22_22 (m := s7.length) (news := s7.map byteV) (n := s6.length) (cs := s6.map byteV) (v := v) ?_ rfl ho6 (flat_bytes _) ?_ ?_ ?_ ?_
          · simp (disch:=(first|omega|(simp only [qI,qJ,qK]<;>omega)|exact qL _)) only [go_sem,↓reduceIte,n0,reduceCtorEq,n1,n2,n3,n4,n5,i0,i1,i2,i3,i4,i5,i6,i7,h9]
          · simp (disch:=(first|omega|(simp only [qI,qJ,qK]<;>omega)|exact qL _)) only [go_sem,↓reduceIte,n0,reduceCtorEq,n1,n2,n3,n4,n5,i0,i1,i2,i3,i4,i5,i6,i7]
            exact (Own.bytes (ok := AnyB) ho7 fun _ _ => trivial).src
          · omega
          · omega
          intro v' w8 ho8 hu hfr
          have hE8 : Ext w2 w8 := Ext.own (hE3.trans hE37) ho hu
          have hM8 : Upd (ownB v) w5.drew w8 := (hE57.mono (fun _ h => h.elim)).trans hu
          simp (disch:=(first|omega|(simp only [qI,qJ,qK]<;>omega)|exact qL _)) only [go_sem,↓reduceIte,n0,reduceCtorEq,n1,n2,n3,n4,n5,i0,i1,i2,i3,i4,i5,i6,i7]
          refine ⟨hM8,hM8,?_⟩
          repeat ((first | refine qA rfl ?_|apply qB|refine qC rfl ?_|apply qD|apply qE|apply qF|apply qG|apply qH);try simp (disch:=(first|omega|(simp only [qI,qJ,qK]<;>omega)|exact qL _)) only [go_sem,↓reduceIte,n0,reduceCtorEq,n1,n2,n3,n4,n5,i0,i1,i2,i3,i4,i5,i6,i7,h23])
          refine ⟨⟨j + 1,v',by omega,rfl,h22,h21,rfl,h10,h11,⟨h0,h1,h2,h7,hE8⟩,?_⟩,?_⟩
          · rw [hsn];exact OwnBy.app (s := s6) (t := s7) ho8 rfl
          · simp only [RowKit.intOf];omega
        · have hh' : hasS g ver = false := by simpa using hh
          have hpF : plainF pt ver flex t (g,j) = [] := if_neg fun h => hh h.2
          rw [hpF,List.append_nil] at hsn
          simp (disch:=(first|omega|(simp only [qI,qJ,qK]<;>omega)|exact qL _)) only [go_sem,↓reduceIte,n0,reduceCtorEq,n1,n2,n3,n4,n5,i0,i1,i2,i3,i4,i5,i6,i7,hh']
          repeat ((first | refine qA rfl ?_|apply qB|refine qC rfl ?_|apply qD|apply qE|apply qF|apply qG|apply qH);try simp (disch:=(first|omega|(simp only [qI,qJ,qK]<;>omega)|exact qL _)) only [go_sem,↓reduceIte,n0,reduceCtorEq,n1,n2,n3,n4,n5,i0,i1,i2,i3,i4,i5,i6,i7,hh',h23])
          refine ⟨⟨j + 1,v,by omega,rfl,h22,h21,h9,h10,h11,⟨h0,h1,h2,h7,hE3.trans hE35⟩,?_⟩,?_⟩
          · rw [hsn];exact ho5
          · simp only [RowKit.intOf];omega
      · have hpF : plainF pt ver flex t (g,j) = [] := if_neg fun h => htg h.1
        rw [hpF,List.append_nil] at hsn
        repeat ((first | refine qA rfl ?_|apply qB|refine qC rfl ?_|apply qD|apply qE|apply qF|apply qG|apply qH);try simp (disch:=(first|omega|(simp only [qI,qJ,qK]<;>omega)|exact qL _)) only [go_sem,↓reduceIte,n0,reduceCtorEq,n1,n2,n3,n4,n5,i0,i1,i2,i3,i4,i5,i6,i7,h23,h22,h21,hx3,hxe,hfl2,cellsAt_eight,Int.toNat_natCast])
        refine ⟨⟨j + 1,v,by omega,rfl,h9,h10,h11,⟨h0,h1,h2,h7,hE3.trans hE4⟩,?_⟩,?_⟩
        · rw [hsn];exact ho.upd hE4 (fun _ _ h => h)
        · simp only [RowKit.intOf];omega
    · have hjl : j = fs.length := by omega
      subst hjl
      rw [plainP_all] at ho
      repeat ((first | refine qA rfl ?_|apply qB|refine qC rfl ?_|apply qD|apply qE|apply qF|apply qG|apply qH);try simp (disch:=(first|omega|(simp only [qI,qJ,qK]<;>omega)|exact qL _)) only [go_sem,↓reduceIte,n0,reduceCtorEq,n1,n2,n3,n4,n5,i0,i1,i2,i3,i4,i5,i6,i7,h23,h22])
      exact ⟨_,h9,h10,h11,⟨h0,h1,h2,h7,hE3⟩,ho⟩
  · rintro ρ w3 ⟨v,h9,h10,h11,⟨h0,h1,h2,h7,hE3⟩,ho⟩
    have hz3 := hE3.size
    have hE03 : Ext w w3 := hE.trans hE3
    have hb13 := hE3.blk_some hb1 id
    simp (disch:=(first|omega|(simp only [qI,qJ,qK]<;>omega)|exact qL _)) only [go_sem,↓reduceIte,n0,reduceCtorEq,n1,n2,n3,n4,n5,i0,i1,i2,i3,i4,i5,i6,i7]
    cases flex with
    | false =>
      repeat ((first | refine qA rfl ?_|apply qB|refine qC rfl ?_|apply qD|apply qE|apply qF|apply qG|apply qH);try simp (disch:=(first|omega|(simp only [qI,qJ,qK]<;>omega)|exact qL _)) only [go_sem,↓reduceIte,n0,reduceCtorEq,n1,n2,n3,n4,n5,i0,i1,i2,i3,i4,i5,i6,i7,h2,h9])
      refine ⟨?_,hE03⟩
      exact ho.mono (by omega)
    | true =>
      -- the known tags
      have hK := knownS_le (fs := fs) htag
      have hlenT : ((tagsS pt du fs ver true t).flatMap oneTag).length ≤ 2 ^ 40 := by
        unfold partT at hlen
        rw [if_pos rfl] at hlen
        simp only [List.length_append] at hlen;omega
      have hlenU : ((tagsS pt du fs ver true t).flatMap oneTag ++ (unknownS fs t.u).flatMap unkT).length ≤ 2 ^ 40 := by
        unfold partT at hlen
        rw [if_pos rfl] at hlen
        simp only [List.length_append] at hlen ⊢;omega
      repeat ((first | refine qA rfl ?_|apply qB|refine qC rfl ?_|apply qD|apply qE|apply qF|apply qG|apply qH);try simp (disch:=(first|omega|(simp only [qI,qJ,qK]<;>omega)|exact qL _)) only [go_sem,↓reduceIte,n0,reduceCtorEq,n1,n2,n3,n4,n5,i0,i1,i2,i3,i4,i5,i6,i7,h2,h0])
      refine (known_fn (ok := ok) fs _ w3 (hf.keep (hE03.keeps _)) hfl htag).mono ?_
      rintro v4 w4 ⟨rfl,hEk⟩
      have hzk := hEk.size
      repeat ((first | refine qA rfl ?_|apply qB|refine qC rfl ?_|apply qD|apply qE|apply qF|apply qG|apply qH);try simp (disch:=(first|omega|(simp only [qI,qJ,qK]<;>omega)|exact qL _)) only [go_sem,↓reduceIte,n0,reduceCtorEq,n1,n2,n3,n4,n5,i0,i1,i2,i3,i4,i5,i6,i7])
      refine W.exitJ 2 (fun ρ w' => ∃ vt,ρ 9 = v ∧ ρ 10 = vt ∧ ρ 11 = .int .i64 (tagsS pt du fs ver true t).length ∧ PG w3 fs.length bf cf ver true w.heap.size ρ w' ∧ OwnBy 5 w3.heap.size w' vt ((tagsS pt du fs ver true t).flatMap oneTag))
        (W.loop (fun ρ w' => ∃ (k : Nat) (vt : Value),k ≤ knownS fs ∧ ρ 52 = .int .i64 k ∧ ρ 51 = .int .i64 (knownS fs : Nat) ∧ ρ 9 = v ∧ ρ 10 = vt ∧ ρ 11 = .int .i64 (tagsP pt du fs ver true t k 0).length ∧ PG w3 fs.length bf cf ver true w.heap.size ρ w' ∧ OwnBy 5 w3.heap.size w' vt ((tagsP pt du fs ver true t k 0).flatMap oneTag))
          (fun ρ _ => knownS fs - (RowKit.intOf (ρ 52)).toNat) ?_ ?_) ?_
      · refine ⟨0,_,Nat.zero_le _,?_,?_,?_,rfl,?_,⟨?_,?_,?_,?_,hEk⟩,?_⟩ <;> simp (disch:=(first|omega|(simp only [qI,qJ,qK]<;>omega)|exact qL _)) only [go_sem,↓reduceIte,n0,reduceCtorEq,n1,n2,n3,n4,n5,i0,i1,i2,i3,i4,i5,i6,i7,h0,h1,h2,h7,h9,h10,h11]
        · rfl
        · rw [show tagsP pt du fs ver true t 0 0 = [] from rfl];rfl
        · rw [show tagsP pt du fs ver true t 0 0 = [] from rfl];exact Own.nil _ _ _ _
      · rintro ρ w4 ⟨k,vt,hk,h52,h51,h9,h10,h11,⟨h0,h1,h2,h7,hE4⟩,hot⟩
        by_cases hkt : k < knownS fs
        · repeat ((first | refine qA rfl ?_|apply qB|refine qC rfl ?_|apply qD|apply qE|apply qF|apply qG|apply qH);try simp (disch:=(first|omega|(simp only [qI,qJ,qK]<;>omega)|exact qL _)) only [go_sem,↓reduceIte,n0,reduceCtorEq,n1,n2,n3,n4,n5,i0,i1,i2,i3,i4,i5,i6,i7,h52,h51,h0])
          refine W.exitJ 4 (fun ρ w' => ∃ vt,ρ 52 = .int .i64 k ∧ ρ 51 = .int .i64 (knownS fs : Nat) ∧ ρ 9 = v ∧ ρ 10 = vt ∧ ρ 11 = .int .i64 (tagsP pt du fs ver true t k fs.length).length ∧ PG w3 fs.length bf cf ver true w.heap.size ρ w' ∧ OwnBy 5 w3.heap.size w' vt ((tagsP pt du fs ver true t k fs.length).flatMap oneTag))
            (W.loop (fun ρ w' => ∃ (j : Nat) (vt : Value),j ≤ fs.length ∧ ρ 57 = .int .i64 j ∧ ρ 56 = .int .i64 fs.length ∧ ρ 55 = .slice bf fs.length cf ∧ ρ 14 = .int .i64 k ∧ ρ 52 = .int .i64 k ∧ ρ 51 = .int .i64 (knownS fs : Nat) ∧ ρ 9 = v ∧ ρ 10 = vt ∧ ρ 11 = .int .i64 (tagsP pt du fs ver true t k j).length ∧ PG w3 fs.length bf cf ver true w.heap.size ρ w' ∧ OwnBy 5 w3.heap.size w' vt ((tagsP pt du fs ver true t k j).flatMap oneTag))
              (fun ρ _ => fs.length - (RowKit.intOf (ρ 57)).toNat) ?_ ?_) ?_
          · refine ⟨0,_,Nat.zero_le _,?_,?_,?_,?_,?_,?_,?_,rfl,?_,⟨?_,?_,?_,?_,hE4⟩,?_⟩ <;> simp (disch:=(first|omega|(simp only [qI,qJ,qK]<;>omega)|exact qL _)) only [go_sem,↓reduceIte,n0,reduceCtorEq,n1,n2,n3,n4,n5,i0,i1,i2,i3,i4,i5,i6,i7,h0,h1,h2,h7,h9,h10,h11,h52,h51]
            · rfl
            · exact hot
          · clear h9 h10 h11 h0 h1 h2 h7 h52 h51 hot hE4 vt
            rintro ρ w4 ⟨j,vt,hj,h57,h56,h55,h14,h52,h51,h9,h10,h11,⟨h0,h1,h2,h7,hE4⟩,hot⟩
            have hE04 : Ext w w4 := hE03.trans hE4
            have hz4 := hE4.size
            have hb14 := hE4.blk_some hb13 id
            by_cases hlt : j < fs.length
            · obtain ⟨_,b,o,x,vs2,hb,hokb,hx,hblt,hxs,hxe,hfl2,hsub2⟩ := FldsV.get hf hlt
              subst hb
              have hx4 : blk w4 b = some x := hE04.blk_some hx id
              have hmem := List.getElem_mem hlt
              have hsn := tagsP_snoc pt du fs ver true t k j hlt
              have hpre := tagsP_pre pt du fs ver true t k (j + 1) hkt
              have hpre0 := tagsP_pre pt du fs ver true t k j hkt
              have hcnt : (tagsP pt du fs ver true t k j).length ≤ 2 ^ 40 := by
                obtain ⟨r,hr⟩ := hpre0
                rw [hr,List.flatMap_append,List.length_append] at hlenT
                have := oneTag_many (tagsP pt du fs ver true t k j);omega
              generalize fs[j] = g at *
              have hE5 : Ext w4 (wr (w4.alloc (.cells #[.int .i64 0,.int .i64 0,.int .i64 0,.int .i64 0,.int .i64 0,.int .i64 0,.int .i64 0,.slice none 0 0] 45)) w4.heap.size 0 [.int .i64 g.kind,.int .i64 g.fr,.int .i64 g.to,.int .i64 g.null,.int .i64 g.tag,.int .i64 g.df,.int .i64 g.of,vs2]) := (Upd.alloc (Upd.refl _ _) _).wr _ _ (.inl (Nat.le_refl _))
              have hb5 : blk (wr (w4.alloc (.cells #[.int .i64 0,.int .i64 0,.int .i64 0,.int .i64 0,.int .i64 0,.int .i64 0,.int .i64 0,.slice none 0 0] 45)) w4.heap.size 0 [.int .i64 g.kind,.int .i64 g.fr,.int .i64 g.to,.int .i64 g.null,.int .i64 g.tag,.int .i64 g.df,.int .i64 g.of,vs2]) w4.heap.size = some (#[.int .i64 g.kind,.int .i64 g.fr,.int .i64 g.to,.int .i64 g.null,.int .i64 g.tag,.int .i64 g.df,.int .i64 g.of,vs2],45,(0,0)) := by
                rw [blk_wr_eq,blk_alloc_new rfl];rfl
              have hz5 : (wr (w4.alloc (.cells #[.int .i64 0,.int .i64 0,.int .i64 0,.int .i64 0,.int .i64 0,.int .i64 0,.int .i64 0,.slice none 0 0] 45)) w4.heap.size 0 [.int .i64 g.kind,.int .i64 g.fr,.int .i64 g.to,.int .i64 g.null,.int .i64 g.tag,.int .i64 g.df,.int .i64 g.of,vs2]).heap.size = w4.heap.size + 1 := by simp only [size_wr,World.size_alloc]
              repeat ((first | refine qA rfl ?_|apply qB|refine qC rfl ?_|apply qD|apply qE|apply qF|apply qG|apply qH);try simp (disch:=(first|omega|(simp only [qI,qJ,qK]<;>omega)|exact qL _)) only [go_sem,↓reduceIte,n0,reduceCtorEq,n1,n2,n3,n4,n5,i0,i1,i2,i3,i4,i5,i6,i7,h57,h56,h55,hx4,hxe,hfl2,cellsAt_eight,Int.toNat_natCast])
              generalize (wr (w4.alloc (.cells #[.int .i64 0,.int .i64 0,.int .i64 0,.int .i64 0,.int .i64 0,.int .i64 0,.int .i64 0,.slice none 0 0] 45)) w4.heap.size 0 [.int .i64 g.kind,.int .i64 g.fr,.int .i64 g.to,.int .i64 g.null,.int .i64 g.tag,.int .i64 g.df,.int .i64 g.of,vs2]) = w5 at *
              have hb15 := hE5.blk_some hb14 id
              have hE35 : Ext w3 w5 := hE4.trans hE5
              have hE05 : Ext w w5 := hE03.trans hE35
              have hE5d : Ext w5 w5.drew := (Upd.refl _ _).drew
              by_cases htg : g.tag = k
              · refine W.drawR (.take 0 (.take 1 (.take 2 (.take 3 (.take 4 (.take 5 (.take 6 (.take 7 (.only 8 (.only 9 (.take 10 (.take 11 .done)))))))))))) NoB mixed (by kernel_rfl) ?_
                simp (disch:=(first|omega|(simp only [qI,qJ,qK]<;>omega)|exact qL _)) only [go_sem,↓reduceIte,n0,reduceCtorEq,n1,n2,n3,n4,n5,i0,i1,i2,i3,i4,i5,i6,i7,h14,h7,hb5,hb15,cellsAt_five,cellsAt_eight]
                have hE05d : Ext w w5.drew := hE05.trans hE5d
                refine (at_fn (ok := ok) t j _ _ (ht.keep (hE05d.keeps _)) (by omega) (by omega)).mono ?_
                rintro v6 w6 ⟨⟨c6,rfl,hc6⟩,hE6⟩
                refine ⟨hE6,?_⟩
                have hE06 : Ext w w6 := hE05d.trans hE6
                refine (husual g hmem (t.at j) _ c6 w6 (FldC.of (hsub2.keep (hE06.keeps _))) hc6 (hsm.at j)).mono ?_
                rintro v7 w7 ⟨rfl,hE7⟩
                have hE57 : Ext w5.drew w7 := hE6.trans hE7
                have hE5_7 : Ext w5 w7 := hE5d.trans hE57
                have hE37 : Ext w3 w7 := hE35.trans hE5_7
                have hE07 : Ext w w7 := hE03.trans hE37
                refine ⟨hE57,?_⟩
                by_cases hus : usualS du g (t.at j) = true
                · have hF : tagF pt du ver true t k (g,j) = none := if_neg fun h => by rw [hus] at h;exact absurd h.2 (by simp)
                  rw [hF,Option.toList_none,List.append_nil] at hsn
                  simp (disch:=(first|omega|(simp only [qI,qJ,qK]<;>omega)|exact qL _)) only [go_sem,↓reduceIte,n0,reduceCtorEq,n1,n2,n3,n4,n5,i0,i1,i2,i3,i4,i5,i6,i7,hus]
                  repeat ((first | refine qA rfl ?_|apply qB|refine qC rfl ?_|apply qD|apply qE|apply qF|apply qG|apply qH);try simp (disch:=(first|omega|(simp only [qI,qJ,qK]<;>omega)|exact qL _)) only [go_sem,↓reduceIte,n0,reduceCtorEq,n1,n2,n3,n4,n5,i0,i1,i2,i3,i4,i5,i6,i7,hus,h57])
                  refine ⟨⟨j + 1,vt,by omega,rfl,h56,h55,h14,h52,h51,h9,h10,by rw [hsn];exact h11,⟨h0,h1,h2,h7,hE37⟩,?_⟩,?_⟩
                  · rw [hsn];exact hot.upd (hE5.trans hE5_7) (fun _ _ h => h)
                  · simp only [RowKit.intOf];omega
                · have hus' : usualS du g (t.at j) = false := by simpa using hus
                  have hF : tagF pt du ver true t k (g,j) = some (k,fieldS pt g ver true (t.at j)) := if_pos ⟨htg,hus'⟩
                  rw [hF,Option.toList_some] at hsn
                  have hlen1 : ((tagsP pt du fs ver true t k j).flatMap oneTag).length + (fieldS pt g ver true (t.at j)).length ≤ 2 ^ 40 := by
                    obtain ⟨r,hr⟩ := hpre
                    rw [hr,hsn] at hlenT
                    simp only [List.flatMap_append,List.flatMap_cons,List.flatMap_nil,List.append_nil,List.length_append,oneTag] at hlenT
                    omega
                  have hz57 := hE5_7.size
                  have hb57 := hE5_7.blk_some hb5 id
                  have hb17 := hE5_7.blk_some hb15 id
                  simp (disch:=(first|omega|(simp only [qI,qJ,qK]<;>omega)|exact qL _)) only [go_sem,↓reduceIte,n0,reduceCtorEq,n1,n2,n3,n4,n5,i0,i1,i2,i3,i4,i5,i6,i7,hus']
                  repeat ((first | refine qA rfl ?_|apply qB|refine qC rfl ?_|apply qD|apply qE|apply qF|apply qG|apply qH);try simp (disch:=(first|omega|(simp only [qI,qJ,qK]<;>omega)|exact qL _)) only [go_sem,↓reduceIte,n0,reduceCtorEq,n1,n2,n3,n4,n5,i0,i1,i2,i3,i4,i5,i6,i7,hus'])
                  refine W.drawR (.take 0 (.take 1 (.take 2 (.take 3 (.take 4 (.only 5 (.only 6 (.only 7 .done)))))))) NoB mixed (by kernel_rfl) ?_
                  simp (disch:=(first|omega|(simp only [qI,qJ,qK]<;>omega)|exact qL _)) only [go_sem,↓reduceIte,n0,reduceCtorEq,n1,n2,n3,n4,n5,i0,i1,i2,i3,i4,i5,i6,i7,h1,h2,h7,hb57,hb17,cellsAt_five,cellsAt_eight]
                  have hE7d : Ext w7 w7.drew := (Upd.refl _ _).drew
                  have hE07d : Ext w w7.drew := hE07.trans hE7d
                  refine (at_fn (ok := ok) t j _ _ (ht.keep (hE07d.keeps _)) (by omega) (by omega)).mono ?_
                  rintro v8 w8 ⟨⟨c8,rfl,hc8⟩,hE8⟩
                  refine ⟨hE8,?_⟩
                  have hE08 : Ext w w8 := hE07d.trans hE8
                  refine (hfield g hmem (t.at j) _ c8 w8 (FldC.of (hsub2.keep (hE08.keeps _))) hc8 (hsm.at j) (by omega)).mono ?_
                  rintro v9 w9 ⟨ho9,hE9⟩
                  obtain ⟨ab,cb,rfl,hcb⟩ := ho9.len
                  have hE79 : Ext w7.drew w9 := hE8.trans hE9
                  have hE49 : Ext w4 w9 := hE5.trans (hE5_7.trans (hE7d.trans hE79))
                  have hE39 : Ext w3 w9 := hE4.trans hE49
                  have hz48 : w4.heap.size ≤ w8.heap.size := (hE5.trans (hE5_7.trans (hE7d.trans hE8))).size
                  have hot9 := hot.upd hE49 (fun _ _ h => h)
                  have hvb := Own.bytes (ok := ownB (.slice ab (fieldS pt g ver true (t.at j)).length cb)) ho9 fun _ h => h
                  have hsep : ∀ b,ownB (.slice ab (fieldS pt g ver true (t.at j)).length cb) b → ¬ ownB vt b ∧ b < w9.heap.size := fun b hb => by
                    refine ⟨fun h => ?_,Own.below ho9 hb⟩
                    have := Own.above ho9 hb
                    have := Own.below hot h
                    omega
                  have ew1 : IntKind.u64.wrap (k : Int) = k := u64_wrap (by omega)
                  have ew2 : IntKind.u64.wrap ((fieldS pt g ver true (t.at j)).length : Int) = ((fieldS pt g ver true (t.at j)).length : Nat) := u64_wrap (by omega)
                  refine ⟨hE79,hE79,?_⟩
                  repeat ((first | refine qA rfl ?_|apply qB|refine qC rfl ?_|apply qD|apply qE|apply qF|apply qG|apply qH);try simp (disch:=(first|omega|(simp only [qI,qJ,qK]<;>omega)|exact qL _)) only [go_sem,↓reduceIte,n0,reduceCtorEq,n1,n2,n3,n4,n5,i0,i1,i2,i3,i4,i5,i6,i7,h10,h14,ew1,ew2])
                  refine (Uvarint_fn (k) (by omega) _).mono ?_
                  rintro va wa ⟨hoa,hEa⟩
                  have hza := hEa.size
                  have hul1 := uvarS_len 9 (k) (by omega)
                  have hul2 := uvarS_len 9 (fieldS pt g ver true (t.at j)).length (by omega)
                  have hota := hot9.upd hEa (fun _ _ h => h)
                  have hvba := hvb.keep (hEa.keeps _)
                  have hEta : Ext w3 wa := hE39.trans hEa
                  refine wp_append ap_22_22 (m := (uvarS (k)).length) (news := (uvarS (k)).map byteV) (n := ((tagsP pt du fs ver true t k j).flatMap oneTag).length) (cs := ((tagsP pt du fs ver true t k j).flatMap oneTag).map byteV) (v := vt) ?_ rfl hota (flat_bytes _) ?_ ?_ ?_ ?_
                  · simp (disch:=(first|omega|(simp only [qI,qJ,qK]<;>omega)|exact qL _)) only [go_sem,↓reduceIte,n0,reduceCtorEq,n1,n2,n3,n4,n5,i0,i1,i2,i3,i4,i5,i6,i7,h10,ew1,ew2]
                  · simp (disch:=(first|omega|(simp only [qI,qJ,qK]<;>omega)|exact qL _)) only [go_sem,↓reduceIte,n0,reduceCtorEq,n1,n2,n3,n4,n5,i0,i1,i2,i3,i4,i5,i6,i7]
                    exact (Own.bytes (ok := AnyB) hoa fun _ _ => trivial).src
                  · have := hEta.size;omega
                  · omega
                  intro vt1 wb hob hub hfrb
                  have hzb := hub.size
                  have hob' := OwnBy.app (s := (tagsP pt du fs ver true t k j).flatMap oneTag) (t := uvarS (k)) hob rfl
                  have hEtb : Ext w3 wb := Ext.own hEta hot9 hub
                  have hvbb := hvba.keep (hub.keeps fun b _ hb => (hsep b hb).1)
                  have hsep1 : ∀ b,_ → ¬ ownB vt1 b := fun b hb h => by rcases hfrb b h with h | h;exact (hsep b hb).1 h;have := (hsep b hb).2;omega
                  simp (disch:=(first|omega|(simp only [qI,qJ,qK]<;>omega)|exact qL _)) only [go_sem,↓reduceIte,n0,reduceCtorEq,n1,n2,n3,n4,n5,i0,i1,i2,i3,i4,i5,i6,i7,h10,ew1,ew2]
                  refine (Uvarint_fn (fieldS pt g ver true (t.at j)).length (by omega) _).mono ?_
                  rintro vc wc ⟨hoc,hEc⟩
                  have hzc := hEc.size
                  have hotc := hob'.upd hEc (fun _ _ h => h)
                  have hvbc := hvbb.keep (hEc.keeps _)
                  have hEtc : Ext w3 wc := hEtb.trans hEc
                  refine wp_append ap_22_22 (m := (uvarS (fieldS pt g ver true (t.at j)).length).length) (news := (uvarS (fieldS pt g ver true (t.at j)).length).map byteV) (n := ((tagsP pt du fs ver true t k j).flatMap oneTag ++ uvarS (k)).length) (cs := ((tagsP pt du fs ver true t k j).flatMap oneTag ++ uvarS (k)).map byteV) (v := vt1) ?_ rfl hotc (flat_bytes _) ?_ ?_ ?_ ?_
                  · simp (disch:=(first|omega|(simp only [qI,qJ,qK]<;>omega)|exact qL _)) only [go_sem,↓reduceIte,n0,reduceCtorEq,n1,n2,n3,n4,n5,i0,i1,i2,i3,i4,i5,i6,i7]
                  · simp (disch:=(first|omega|(simp only [qI,qJ,qK]<;>omega)|exact qL _)) only [go_sem,↓reduceIte,n0,reduceCtorEq,n1,n2,n3,n4,n5,i0,i1,i2,i3,i4,i5,i6,i7]
                    exact (Own.bytes (ok := AnyB) hoc fun _ _ => trivial).src
                  · have := hEtc.size;omega
                  · simp only [List.length_append];omega
                  intro vt2 wd hod hud hfrd
                  have hzd := hud.size
                  have hod' := OwnBy.app (s := (tagsP pt du fs ver true t k j).flatMap oneTag ++ uvarS (k)) (t := uvarS (fieldS pt g ver true (t.at j)).length) hod rfl
                  have hEtd : Ext w3 wd := Ext.own hEtc hob' hud
                  have hvbd := hvbc.keep (hud.keeps fun b _ hb => hsep1 b hb)
                  simp (disch:=(first|omega|(simp only [qI,qJ,qK]<;>omega)|exact qL _)) only [go_sem,↓reduceIte,n0,reduceCtorEq,n1,n2,n3,n4,n5,i0,i1,i2,i3,i4,i5,i6,i7]
                  refine wp_append ap_22_22 (m := (fieldS pt g ver true (t.at j)).length) (news := (fieldS pt g ver true (t.at j)).map byteV) (n := ((tagsP pt du fs ver true t k j).flatMap oneTag ++ uvarS (k) ++ uvarS (fieldS pt g ver true (t.at j)).length).length) (cs := ((tagsP pt du fs ver true t k j).flatMap oneTag ++ uvarS (k) ++ uvarS (fieldS pt g ver true (t.at j)).length).map byteV) (v := vt2) ?_ rfl hod' (flat_bytes _) ?_ ?_ ?_ ?_
                  · simp (disch:=(first|omega|(simp only [qI,qJ,qK]<;>omega)|exact qL _)) only [go_sem,↓reduceIte,n0,reduceCtorEq,n1,n2,n3,n4,n5,i0,i1,i2,i3,i4,i5,i6,i7]
                  · simp (disch:=(first|omega|(simp only [qI,qJ,qK]<;>omega)|exact qL _)) only [go_sem,↓reduceIte,n0,reduceCtorEq,n1,n2,n3,n4,n5,i0,i1,i2,i3,i4,i5,i6,i7,h10,ew1,ew2]
                    exact hvbd.src
                  · have := hEtd.size;omega
                  · simp only [List.length_append];omega
                  intro vt3 we hoe hue hfre
                  have hze := hue.size
                  have hoe' := OwnBy.app (s := (tagsP pt du fs ver true t k j).flatMap oneTag ++ uvarS (k) ++ uvarS (fieldS pt g ver true (t.at j)).length) (t := fieldS pt g ver true (t.at j)) hoe rfl
                  have hEte : Ext w3 we := Ext.own hEtd hod' hue
                  have hone : (tagsP pt du fs ver true t k j).flatMap oneTag ++ uvarS (k) ++ uvarS (fieldS pt g ver true (t.at j)).length ++ fieldS pt g ver true (t.at j) = (tagsP pt du fs ver true t k j).flatMap oneTag ++ oneTag (k,fieldS pt g ver true (t.at j)) := by simp only [oneTag,List.append_assoc]
                  rw [hone] at hoe'
                  simp (disch:=(first|omega|(simp only [qI,qJ,qK]<;>omega)|exact qL _)) only [go_sem,↓reduceIte,n0,reduceCtorEq,n1,n2,n3,n4,n5,i0,i1,i2,i3,i4,i5,i6,i7]
                  repeat ((first | refine qA rfl ?_|apply qB|refine qC rfl ?_|apply qD|apply qE|apply qF|apply qG|apply qH);try simp (disch:=(first|omega|(simp only [qI,qJ,qK]<;>omega)|exact qL _)) only [go_sem,↓reduceIte,n0,reduceCtorEq,n1,n2,n3,n4,n5,i0,i1,i2,i3,i4,i5,i6,i7,h57,h11])
                  refine ⟨⟨j + 1,vt3,by omega,rfl,h56,h55,h14,h52,h51,h9,rfl,?_,⟨h0,h1,h2,h7,hEte⟩,?_⟩,?_⟩
                  · rw [hsn,List.length_append];rfl
                  · rw [hsn]
                    simp only [List.flatMap_append,List.flatMap_cons,List.flatMap_nil,List.append_nil]
                    exact hoe'
                  · simp only [RowKit.intOf];omega
              · have hF : tagF pt du ver true t k (g,j) = none := if_neg fun h => htg h.1
                rw [hF,Option.toList_none,List.append_nil] at hsn
                refine W.drawR (.take 0 (.take 1 (.take 2 (.take 3 (.take 4 (.take 5 (.take 6 (.take 7 (.only 8 (.only 9 (.take 10 (.take 11 .done)))))))))))) NoB mixed (by kernel_rfl) ?_
                simp (disch:=(first|omega|(simp only [qI,qJ,qK]<;>omega)|exact qL _)) only [go_sem,↓reduceIte,n0,reduceCtorEq,n1,n2,n3,n4,n5,i0,i1,i2,i3,i4,i5,i6,i7,h14,h7,hb5,hb15,cellsAt_five,cellsAt_eight]
                repeat ((first | refine qA rfl ?_|apply qB|refine qC rfl ?_|apply qD|apply qE|apply qF|apply qG|apply qH);try simp (disch:=(first|omega|(simp only [qI,qJ,qK]<;>omega)|exact qL _)) only [go_sem,↓reduceIte,n0,reduceCtorEq,n1,n2,n3,n4,n5,i0,i1,i2,i3,i4,i5,i6,i7,h57])
                refine ⟨⟨j + 1,vt,by omega,rfl,h56,h55,h14,h52,h51,h9,h10,by rw [hsn];exact h11,⟨h0,h1,h2,h7,hE35.trans hE5d⟩,?_⟩,?_⟩
                · rw [hsn];exact hot.upd (hE5.trans hE5d) (fun _ _ h => h)
                · simp only [RowKit.intOf];omega
            · have hjl : j = fs.length := by omega
              subst hjl
              repeat ((first | refine qA rfl ?_|apply qB|refine qC rfl ?_|apply qD|apply qE|apply qF|apply qG|apply qH);try simp (disch:=(first|omega|(simp only [qI,qJ,qK]<;>omega)|exact qL _)) only [go_sem,↓reduceIte,n0,reduceCtorEq,n1,n2,n3,n4,n5,i0,i1,i2,i3,i4,i5,i6,i7,h57,h56])
              exact ⟨vt,h52,h51,h9,h10,h11,⟨h0,h1,h2,h7,hE4⟩,hot⟩
          · clear h9 h10 h11 h0 h1 h2 h7 h52 h51 hot hE4 vt
            rintro ρ w4 ⟨vt,h52,h51,h9,h10,h11,⟨h0,h1,h2,h7,hE4⟩,hot⟩
            rw [tagsP_next] at h11 hot
            simp (disch:=(first|omega|(simp only [qI,qJ,qK]<;>omega)|exact qL _)) only [go_sem,↓reduceIte,n0,reduceCtorEq,n1,n2,n3,n4,n5,i0,i1,i2,i3,i4,i5,i6,i7]
            repeat ((first | refine qA rfl ?_|apply qB|refine qC rfl ?_|apply qD|apply qE|apply qF|apply qG|apply qH);try simp (disch:=(first|omega|(simp only [qI,qJ,qK]<;>omega)|exact qL _)) only [go_sem,↓reduceIte,n0,reduceCtorEq,n1,n2,n3,n4,n5,i0,i1,i2,i3,i4,i5,i6,i7,h52])
            refine ⟨⟨k + 1,vt,by omega,rfl,h51,h9,h10,h11,⟨h0,h1,h2,h7,hE4⟩,hot⟩,?_⟩
            simp only [RowKit.intOf];omega
        · have hkl : k = knownS fs := by omega
          subst hkl
          rw [tagsP_all] at h11 hot
          repeat ((first | refine qA rfl ?_|apply qB|refine qC rfl ?_|apply qD|apply qE|apply qF|apply qG|apply qH);try simp (disch:=(first|omega|(simp only [qI,qJ,qK]<;>omega)|exact qL _)) only [go_sem,↓reduceIte,n0,reduceCtorEq,n1,n2,n3,n4,n5,i0,i1,i2,i3,i4,i5,i6,i7,h52,h51])
          exact ⟨vt,h9,h10,h11,⟨h0,h1,h2,h7,hE4⟩,hot⟩
      · clear h10 h11 h0 h1 h2 h7 h9
        rintro ρ w4 ⟨vt,h9,h10,h11,⟨h0,h1,h2,h7,hE4⟩,hot⟩
        have hE04 : Ext w w4 := hE03.trans hE4
        have hb14 := hE4.blk_some hb13 id
        simp (disch:=(first|omega|(simp only [qI,qJ,qK]<;>omega)|exact qL _)) only [go_sem,↓reduceIte,n0,reduceCtorEq,n1,n2,n3,n4,n5,i0,i1,i2,i3,i4,i5,i6,i7]
        repeat ((first | refine qA rfl ?_|apply qB|refine qC rfl ?_|apply qD|apply qE|apply qF|apply qG|apply qH);try simp (disch:=(first|omega|(simp only [qI,qJ,qK]<;>omega)|exact qL _)) only [go_sem,↓reduceIte,n0,reduceCtorEq,n1,n2,n3,n4,n5,i0,i1,i2,i3,i4,i5,i6,i7,h0,h7,hb14])
        refine (unknown_fn (ok := fun b => b < w.heap.size) fs _ t.u vU w4 ((hf.weaken fun b h _ => h).keep (hE04.keeps _)) hfl htag ((hU.weaken fun b h _ => h).keep (hE04.keeps _))).mono ?_
        rintro vu w5 ⟨⟨css,hown,hall⟩,hE5⟩
        have hz5 := hE5.size
        have hz4 := hE4.size
        have hE35 : Ext w3 w5 := hE4.trans hE5
        have hot5 := hot.upd hE5 (fun _ _ h => h)
        have hul := unknownS_len fs t.u
        have hcl := hall.1
        have hsepU : ∀ b,ownB vu b → ¬ ownB vt b := fun b hb h => by
          have := Own.above hown.1 hb
          have := Own.below hot h
          omega
        have hwlen : ∀ x ∈ unknownS fs t.u,(wholeS x.2).length ≤ 32767 := fun x _ => by simp only [wholeS,List.length_take];omega
        obtain ⟨au,cu,rfl,hcu⟩ := hown.shape
        have htl : (tagsS pt du fs ver true t).length ≤ 2 ^ 40 := by
          have := oneTag_many (tagsS pt du fs ver true t);omega
        repeat ((first | refine qA rfl ?_|apply qB|refine qC rfl ?_|apply qD|apply qE|apply qF|apply qG|apply qH);try simp (disch:=(first|omega|(simp only [qI,qJ,qK]<;>omega)|exact qL _)) only [go_sem,↓reduceIte,n0,reduceCtorEq,n1,n2,n3,n4,n5,i0,i1,i2,i3,i4,i5,i6,i7])
        rw [← hcl] at hsepU hown hcu
        rw [← hcl]
        generalize hUU : unknownS fs t.u = U at *
        generalize hTT : tagsS pt du fs ver true t = T at *
        refine W.exitJ 6 (fun ρ w' => ∃ vt,ρ 9 = v ∧ ρ 10 = vt ∧ ρ 11 = .int .i64 (T.length + U.length : Nat) ∧ Ext w3 w' ∧ OwnBy 5 w3.heap.size w' vt (T.flatMap oneTag ++ U.flatMap unkT))
          (W.loop (fun ρ w' => ∃ (j : Nat) (vt : Value),j ≤ U.length ∧ ρ 102 = .int .i64 j ∧ ρ 101 = .int .i64 U.length ∧ ρ 100 = .slice au U.length cu ∧ ρ 9 = v ∧ ρ 10 = vt ∧ ρ 11 = .int .i64 (T.length + j : Nat) ∧ Ext w3 w' ∧
              OwnE w4.heap.size w' 55 2 (.slice au U.length cu) css ∧ (∀ b,ownB (.slice au U.length cu) b → ¬ ownB vt b) ∧ OwnBy 5 w3.heap.size w' vt (T.flatMap oneTag ++ (U.take j).flatMap unkT))
            (fun ρ _ => U.length - (RowKit.intOf (ρ 102)).toNat) ?_ ?_) ?_
        · refine ⟨0,vt,Nat.zero_le _,?_,?_,?_,?_,?_,?_,hE35,hown,hsepU,?_⟩ <;> try simp (disch:=(first|omega|(simp only [qI,qJ,qK]<;>omega)|exact qL _)) only [go_sem,↓reduceIte,n0,reduceCtorEq,n1,n2,n3,n4,n5,i0,i1,i2,i3,i4,i5,i6,i7,h9,h10,h11]
          · rfl
          · rw [List.take_zero,List.flatMap_nil,List.append_nil];exact hot5
        · clear h9 h10 h11 h0 h1 h2 h7 hot hot5 hsepU hown hb14 hE35
          rintro ρ w6 ⟨j,vt,hj,h102,h101,h100,h9,h10,h11,hE6,hown,hsepU,hot⟩
          have hz6 := hE6.size
          by_cases hlt : j < U.length
          · obtain ⟨g,cap,x,hv,hcap,hBg,hgl,hgb,hg1,hg2,hg3⟩ := hown.view (by omega)
            rw [← hcl] at hv
            cases hv
            obtain ⟨vv,hcs,hbv,h32⟩ := hall.2 j hlt (by omega)
            have hx2 := hg2 j (by omega)
            have hx3 := hg1 j (by omega)
            rw [hcs] at hx2
            have hfv := hbv.flat
            have hwl := hwlen U[j] (List.getElem_mem hlt)
            have hsn : (U.take (j + 1)).flatMap unkT = (U.take j).flatMap unkT ++ unkT U[j] := by
              rw [List.take_succ_eq_append_getElem hlt]
              simp only [List.flatMap_append,List.flatMap_cons,List.flatMap_nil,List.append_nil]
            have hle : (T.flatMap oneTag ++ (U.take j).flatMap unkT).length + (wholeS U[j].2).length ≤ 2 ^ 40 := by
              have h : U.flatMap unkT = (U.take (j + 1)).flatMap unkT ++ (U.drop (j + 1)).flatMap unkT := by
                rw [← List.flatMap_append,List.take_append_drop]
              rw [h,hsn] at hlenU
              simp only [List.length_append,unkT,oneTag] at hlenU ⊢
              omega
            have hE7 : Ext w6 (wr (w6.alloc (.cells #[.int .u32 0,.slice none 0 0] 55)) w6.heap.size 0 [.int .u32 U[j].1,vv]) := (Upd.alloc (Upd.refl _ _) _).wr _ _ (.inl (Nat.le_refl _))
            have hb7 : blk (wr (w6.alloc (.cells #[.int .u32 0,.slice none 0 0] 55)) w6.heap.size 0 [.int .u32 U[j].1,vv]) w6.heap.size = some (#[.int .u32 U[j].1,vv],55,(0,0)) := by
              rw [blk_wr_eq,blk_alloc_new rfl];rfl
            repeat ((first | refine qA rfl ?_|apply qB|refine qC rfl ?_|apply qD|apply qE|apply qF|apply qG|apply qH);try simp (disch:=(first|omega|(simp only [qI,qJ,qK]<;>omega)|exact qL _)) only [go_sem,↓reduceIte,n0,reduceCtorEq,n1,n2,n3,n4,n5,i0,i1,i2,i3,i4,i5,i6,i7,h102,h101,h100,hgb,hx2,hx3.1,hfv,cellsAt_two,Int.toNat_natCast])
            generalize (wr (w6.alloc (.cells #[.int .u32 0,.slice none 0 0] 55)) w6.heap.size 0 [.int .u32 U[j].1,vv]) = w7 at *
            have hE37 : Ext w3 w7 := hE6.trans hE7
            have hE07 : Ext w w7 := hE03.trans hE37
            have hE47 : Keeps (fun b => b < w.heap.size) w4 w7 := fun b hb hk => by
              have h1 := hE04.keep b hk id
              have h2 := hE07.keep b hk id
              rw [h1,h2]
            refine (whole_fn (ok := fun b => b < w.heap.size) U[j].2 vv w7 (hbv.keep hE47)).mono ?_
            rintro vw w7' ⟨hvw,hw7⟩
            obtain rfl := hw7.symm
            obtain ⟨ab,cb,rfl,hcb⟩ := hvw.shape
            have hot7 := hot.upd hE7 (fun _ _ h => h)
            have hown7 := hown.upd hE7 (fun _ _ h => h)
            have hz7 := hE7.size
            have hone2 : (T.flatMap oneTag ++ (U.take (j + 1)).flatMap unkT) = T.flatMap oneTag ++ (U.take j).flatMap unkT ++ oneTag (U[j].1,wholeS U[j].2) := by
              rw [hsn,List.append_assoc];rfl
            generalize T.flatMap oneTag ++ (U.take j).flatMap unkT = sT at *
            have hsep : ∀ b,b < w.heap.size → ¬ ownB vt b ∧ b < w7.heap.size := fun b hb => ⟨fun h => by have := Own.above hot7 h;omega,by omega⟩
            have ew0 : IntKind.u64.wrap (U[j].1 : Int) = U[j].1 := u64_wrap (by omega)
            have ew2 : IntKind.u64.wrap ((wholeS U[j].2).length : Int) = ((wholeS U[j].2).length : Nat) := u64_wrap (by omega)
            repeat ((first | refine qA rfl ?_|apply qB|refine qC rfl ?_|apply qD|apply qE|apply qF|apply qG|apply qH);try simp (disch:=(first|omega|(simp only [qI,qJ,qK]<;>omega)|exact qL _)) only [go_sem,↓reduceIte,n0,reduceCtorEq,n1,n2,n3,n4,n5,i0,i1,i2,i3,i4,i5,i6,i7,hb7,h10,ew0,ew2])
            refine (Uvarint_fn (U[j].1) (by omega) _).mono ?_
            rintro va wa ⟨hoa,hEa⟩
            have hza := hEa.size
            have hul1 := uvarS_len 9 (U[j].1) (by omega)
            have hul2 := uvarS_len 9 (wholeS U[j].2).length (by omega)
            have hota := hot7.upd hEa (fun _ _ h => h)
            have hvba := hvw.keep (hEa.keeps _)
            have hEta : Ext w3 wa := hE37.trans hEa
            refine wp_append ap_22_22 (m := (uvarS (U[j].1)).length) (news := (uvarS (U[j].1)).map byteV) (n := (sT).length) (cs := (sT).map byteV) (v := vt) ?_ rfl hota (flat_bytes _) ?_ ?_ ?_ ?_
            · simp (disch:=(first|omega|(simp only [qI,qJ,qK]<;>omega)|exact qL _)) only [go_sem,↓reduceIte,n0,reduceCtorEq,n1,n2,n3,n4,n5,i0,i1,i2,i3,i4,i5,i6,i7,h10,ew0,ew2]
            · simp (disch:=(first|omega|(simp only [qI,qJ,qK]<;>omega)|exact qL _)) only [go_sem,↓reduceIte,n0,reduceCtorEq,n1,n2,n3,n4,n5,i0,i1,i2,i3,i4,i5,i6,i7]
              exact (Own.bytes (ok := AnyB) hoa fun _ _ => trivial).src
            · have := hEta.size;omega
            · omega
            intro vt1 wb hob hub hfrb
            have hzb := hub.size
            have hob' := OwnBy.app (s := sT) (t := uvarS (U[j].1)) hob rfl
            have hEtb : Ext w3 wb := Ext.own hEta hot7 hub
            have hvbb := hvba.keep (hub.keeps fun b _ hb => (hsep b hb).1)
            have hsep1 : ∀ b,_ → ¬ ownB vt1 b := fun b hb h => by rcases hfrb b h with h | h;exact (hsep b hb).1 h;have := (hsep b hb).2;omega
            simp (disch:=(first|omega|(simp only [qI,qJ,qK]<;>omega)|exact qL _)) only [go_sem,↓reduceIte,n0,reduceCtorEq,n1,n2,n3,n4,n5,i0,i1,i2,i3,i4,i5,i6,i7,h10,ew0,ew2]
            refine (Uvarint_fn (wholeS U[j].2).length (by omega) _).mono ?_
            rintro vc wc ⟨hoc,hEc⟩
            have hzc := hEc.size
            have hotc := hob'.upd hEc (fun _ _ h => h)
            have hvbc := hvbb.keep (hEc.keeps _)
            have hEtc : Ext w3 wc := hEtb.trans hEc
            refine wp_append ap_22_22 (m := (uvarS (wholeS U[j].2).length).length) (news := (uvarS (wholeS U[j].2).length).map byteV) (n := (sT ++ uvarS (U[j].1)).length) (cs := (sT ++ uvarS (U[j].1)).map byteV) (v := vt1) ?_ rfl hotc (flat_bytes _) ?_ ?_ ?_ ?_
            · simp (disch:=(first|omega|(simp only [qI,qJ,qK]<;>omega)|exact qL _)) only [go_sem,↓reduceIte,n0,reduceCtorEq,n1,n2,n3,n4,n5,i0,i1,i2,i3,i4,i5,i6,i7]
            · simp (disch:=(first|omega|(simp only [qI,qJ,qK]<;>omega)|exact qL _)) only [go_sem,↓reduceIte,n0,reduceCtorEq,n1,n2,n3,n4,n5,i0,i1,i2,i3,i4,i5,i6,i7]
              exact (Own.bytes (ok := AnyB) hoc fun _ _ => trivial).src
            · have := hEtc.size;omega
            · simp only [List.length_append];omega
            intro vt2 wd hod hud hfrd
            have hzd := hud.size
            have hod' := OwnBy.app (s := sT ++ uvarS (U[j].1)) (t := uvarS (wholeS U[j].2).length) hod rfl
            have hEtd : Ext w3 wd := Ext.own hEtc hob' hud
            have hvbd := hvbc.keep (hud.keeps fun b _ hb => hsep1 b hb)
            simp (disch:=(first|omega|(simp only [qI,qJ,qK]<;>omega)|exact qL _)) only [go_sem,↓reduceIte,n0,reduceCtorEq,n1,n2,n3,n4,n5,i0,i1,i2,i3,i4,i5,i6,i7]
            refine wp_append ap_22_22 (m := (wholeS U[j].2).length) (news := (wholeS U[j].2).map byteV) (n := (sT ++ uvarS (U[j].1) ++ uvarS (wholeS U[j].2).length).length) (cs := (sT ++ uvarS (U[j].1) ++ uvarS (wholeS U[j].2).length).map byteV) (v := vt2) ?_ rfl hod' (flat_bytes _) ?_ ?_ ?_ ?_
            · simp (disch:=(first|omega|(simp only [qI,qJ,qK]<;>omega)|exact qL _)) only [go_sem,↓reduceIte,n0,reduceCtorEq,n1,n2,n3,n4,n5,i0,i1,i2,i3,i4,i5,i6,i7]
            · simp (disch:=(first|omega|(simp only [qI,qJ,qK]<;>omega)|exact qL _)) only [go_sem,↓reduceIte,n0,reduceCtorEq,n1,n2,n3,n4,n5,i0,i1,i2,i3,i4,i5,i6,i7,h10,ew0,ew2]
              exact hvbd.src
            · have := hEtd.size;omega
            · simp only [List.length_append];omega
            intro vt3 we hoe hue hfre
            have hze := hue.size
            have hoe' := OwnBy.app (s := sT ++ uvarS (U[j].1) ++ uvarS (wholeS U[j].2).length) (t := wholeS U[j].2) hoe rfl
            have hEte : Ext w3 we := Ext.own hEtd hod' hue
            have hone : sT ++ uvarS (U[j].1) ++ uvarS (wholeS U[j].2).length ++ wholeS U[j].2 = sT ++ oneTag (U[j].1,wholeS U[j].2) := by simp only [oneTag,List.append_assoc]
            rw [hone] at hoe'
            simp (disch:=(first|omega|(simp only [qI,qJ,qK]<;>omega)|exact qL _)) only [go_sem,↓reduceIte,n0,reduceCtorEq,n1,n2,n3,n4,n5,i0,i1,i2,i3,i4,i5,i6,i7]
            have hsep3 : ∀ b,ownB (.slice (some ⟨g,0,none⟩) U.length cu) b → ¬ ownB vt3 b := fun b hb h => by
              have h6 := Own.below hown.1 hb
              rcases hfre b h with h | h
              · rcases hfrd b h with h | h
                · rcases hfrb b h with h | h
                  · exact hsepU b hb h
                  · omega
                · omega
              · omega
            have hownE : OwnE w4.heap.size we 55 2 (.slice (some ⟨g,0,none⟩) U.length cu) css :=
              ((((hown7.upd hEa (fun _ _ h => h)).upd hub (fun b hb => hsepU b hb)).upd hEc (fun _ _ h => h)).upd hud (fun b hb h => by
                have h6 := Own.below hown.1 hb
                rcases hfrb b h with h | h
                · exact hsepU b hb h
                · omega)).upd hue (fun b hb h => by
                have h6 := Own.below hown.1 hb
                rcases hfrd b h with h | h
                · rcases hfrb b h with h | h
                  · exact hsepU b hb h
                  · omega
                · omega)
            repeat ((first | refine qA rfl ?_|apply qB|refine qC rfl ?_|apply qD|apply qE|apply qF|apply qG|apply qH);try simp (disch:=(first|omega|(simp only [qI,qJ,qK]<;>omega)|exact qL _)) only [go_sem,↓reduceIte,n0,reduceCtorEq,n1,n2,n3,n4,n5,i0,i1,i2,i3,i4,i5,i6,i7,h11,h102])
            refine ⟨⟨j + 1,vt3,by omega,rfl,h101,h100,h9,rfl,rfl,hEte,hownE,hsep3,?_⟩,?_⟩
            · rw [hone2];exact hoe'
            · simp only [RowKit.intOf];omega
          · have hjl : j = U.length := by omega
            subst hjl
            rw [List.take_length] at hot
            repeat ((first | refine qA rfl ?_|apply qB|refine qC rfl ?_|apply qD|apply qE|apply qF|apply qG|apply qH);try simp (disch:=(first|omega|(simp only [qI,qJ,qK]<;>omega)|exact qL _)) only [go_sem,↓reduceIte,n0,reduceCtorEq,n1,n2,n3,n4,n5,i0,i1,i2,i3,i4,i5,i6,i7,h102,h101])
            exact ⟨vt,h9,h10,h11,hE6,hot⟩
        · clear h9 h10 h11 h0 h1 h2 h7 hot hot5 hsepU hown hb14 hE35
          rintro ρ w6 ⟨vt,h9,h10,h11,hE6,hot⟩
          have hz6 := hE6.size
          have hU' := unknownS_len fs t.u
          have ho6 := ho.upd hE6 (fun _ _ h => h)
          have hE26 : Ext w2 w6 := hE3.trans hE6
          have ew : IntKind.u64.wrap ((T.length + U.length : Nat) : Int) = (T.length + U.length : Nat) := u64_wrap (by omega)
          simp (disch:=(first|omega|(simp only [qI,qJ,qK]<;>omega)|exact qL _)) only [go_sem,↓reduceIte,n0,reduceCtorEq,n1,n2,n3,n4,n5,i0,i1,i2,i3,i4,i5,i6,i7]
          have hpt : partT pt du fs ver true t = plainS pt fs ver true t ++ uvarS (T.length + U.length) ++ (T.flatMap oneTag ++ U.flatMap unkT) := by
            unfold partT
            rw [if_pos rfl,hTT,hUU,List.append_assoc]
          have hbelow : ∀ b,ownB v b → b < w3.heap.size := fun b hb => Own.below ho hb
          rw [hpt] at hlen ⊢
          generalize plainS pt fs ver true t = sP at *
          generalize T.flatMap oneTag ++ U.flatMap unkT = sT at *
          have hvt := Own.bytes (ok := ownB vt) hot fun _ h => h
          have hsep : ∀ b,ownB vt b → ¬ ownB v b ∧ b < w6.heap.size := fun b hb => by
            refine ⟨fun h => ?_,Own.below hot hb⟩
            have := Own.above hot hb
            have := hbelow b h
            omega
          obtain ⟨at',ct',rfl,hct'⟩ := hot.len
          have hul1 := uvarS_len 9 (T.length + U.length) (by omega)
          repeat ((first | refine qA rfl ?_|apply qB|refine qC rfl ?_|apply qD|apply qE|apply qF|apply qG|apply qH);try simp (disch:=(first|omega|(simp only [qI,qJ,qK]<;>omega)|exact qL _)) only [go_sem,↓reduceIte,n0,reduceCtorEq,n1,n2,n3,n4,n5,i0,i1,i2,i3,i4,i5,i6,i7,h9,h11,ew])
          refine (Uvarint_fn (T.length + U.length) (by omega) _).mono ?_
          rintro va wa ⟨hoa,hEa⟩
          have hza := hEa.size
          have hE2a : Ext w2 wa := hE26.trans hEa
          have hoa6 := Own.upd ho6 hEa (fun _ _ h => h)
          have hvta := hvt.keep (hEa.keeps _)
          refine wp_append ap_22_22 (m := (uvarS (T.length + U.length)).length) (news := (uvarS (T.length + U.length)).map byteV) (n := sP.length) (cs := sP.map byteV) (v := v) ?_ rfl hoa6 (flat_bytes _) ?_ ?_ ?_ ?_
          · simp (disch:=(first|omega|(simp only [qI,qJ,qK]<;>omega)|exact qL _)) only [go_sem,↓reduceIte,n0,reduceCtorEq,n1,n2,n3,n4,n5,i0,i1,i2,i3,i4,i5,i6,i7]
          · simp (disch:=(first|omega|(simp only [qI,qJ,qK]<;>omega)|exact qL _)) only [go_sem,↓reduceIte,n0,reduceCtorEq,n1,n2,n3,n4,n5,i0,i1,i2,i3,i4,i5,i6,i7]
            exact (Own.bytes (ok := AnyB) hoa fun _ _ => trivial).src
          · have := hE2a.size;omega
          · omega
          intro v1 wb hob hub hfrb
          have hzb := hub.size
          have hob' := OwnBy.app (s := sP) (t := uvarS (T.length + U.length)) hob rfl
          have hE2b : Ext w2 wb := Ext.own hE2a ho6 hub
          have hvtb := hvta.keep (hub.keeps fun b _ hb => (hsep b hb).1)
          have hsep1 : ∀ b,ownB (.slice at' sT.length ct') b → ¬ ownB v1 b := fun b hb h => by
            rcases hfrb b h with h | h
            · exact (hsep b hb).1 h
            · have := (hsep b hb).2;omega
          simp (disch:=(first|omega|(simp only [qI,qJ,qK]<;>omega)|exact qL _)) only [go_sem,↓reduceIte,n0,reduceCtorEq,n1,n2,n3,n4,n5,i0,i1,i2,i3,i4,i5,i6,i7,h10]
          refine wp_append ap_22_22 (m := sT.length) (news := sT.map byteV) (n := (sP ++ uvarS (T.length + U.length)).length) (cs := (sP ++ uvarS (T.length + U.length)).map byteV) (v := v1) ?_ rfl hob' (flat_bytes _) ?_ ?_ ?_ ?_
          · simp (disch:=(first|omega|(simp only [qI,qJ,qK]<;>omega)|exact qL _)) only [go_sem,↓reduceIte,n0,reduceCtorEq,n1,n2,n3,n4,n5,i0,i1,i2,i3,i4,i5,i6,i7]
          · simp (disch:=(first|omega|(simp only [qI,qJ,qK]<;>omega)|exact qL _)) only [go_sem,↓reduceIte,n0,reduceCtorEq,n1,n2,n3,n4,n5,i0,i1,i2,i3,i4,i5,i6,i7,h10]
            exact hvtb.src
          · have := hE2b.size;omega
          · simp only [List.length_append] at hlen ⊢;omega
          intro v2 wc hoc huc hfrc
          have hoc' := OwnBy.app (s := sP ++ uvarS (T.length + U.length)) (t := sT) hoc rfl
          have hE2c : Ext w2 wc := Ext.own hE2b hob' huc
          simp (disch:=(first|omega|(simp only [qI,qJ,qK]<;>omega)|exact qL _)) only [go_sem,↓reduceIte,n0,reduceCtorEq,n1,n2,n3,n4,n5,i0,i1,i2,i3,i4,i5,i6,i7]
          repeat ((first | refine qA rfl ?_|apply qB|refine qC rfl ?_|apply qD|apply qE|apply qF|apply qG|apply qH);try simp (disch:=(first|omega|(simp only [qI,qJ,qK]<;>omega)|exact qL _)) only [go_sem,↓reduceIte,n0,reduceCtorEq,n1,n2,n3,n4,n5,i0,i1,i2,i3,i4,i5,i6,i7])
          exact ⟨hoc'.mono (by omega),hE.trans hE2c⟩

theorem part_ok {ok : Blocks} : ∀ d,PartOk ok d (partS (d + 1)) := by
  intro d
  induction d with
  | zero =>
    intro fs ver flex t vs ct w h1 h2 h3 h4 h5
    have hnil : fs = [] := by simpa [okF] using h2
    subst hnil
    rw [partS_eq] at h5 ⊢
    exact part_fn (partS 0) 1 [] ver flex t vs ct w h1 (by simp) (fun f h => by simp at h) h3 h4 (fun f h => by simp at h) (fun f h => by simp at h) h5
  | succ d ih =>
    intro fs ver flex t vs ct w h1 h2 h3 h4 h5
    rw [partS_eq] at h5 ⊢
    refine part_fn (partS (d + 1)) (d + 2) fs ver flex t vs ct w h1 (okF_len h2) (okF_tag h2) h3 h4 ?_ ?_ h5
    · intro f hf x cf cx w' g1 g2 g3 g4
      obtain ⟨e,he,hB,hok⟩ := okF_el h2 hf
      cases he
      exact field_fn ih f ver flex x cf cx w' g1 hok g2 g3 g4
    · intro f hf x cf cx w' g1 g2 g3
      obtain ⟨e,he,hB,hok⟩ := okF_el h2 hf
      cases he
      exact usual_fn (d + 1) f x cf cx w' g1 g2 (okF_mono d _ hok) hB g3
end Ms

namespace Ms
def flexB (flex ver : Int) : Bool := decide (0 ≤ flex) && decide (flex ≤ ver)
end Ms

namespace Ms
open Go.World renaming size_alloc → qI
open Ms renaming size_wr → qJ,size_drew → qK,not_noB → qL
open W renaming seqR → qA,seq → qB,regR → qC,condK → qD,block → qE,skip → qF,ret → qG,exit → qH
open Nat renaming reduceEqDiff → n0,reduceAdd → n1,reduceMul → n2,reduceSub → n3,reduceLT → n4,reduceLeDiff → n5
open Int renaming reduceEq → i0,reduceLT → i1,reduceLE → i2,reduceNeg → i3,reduceAdd → i4,reduceSub → i5,reduceMul → i6,reduceToNat → i7
set_option maxRecDepth 4000
open Go Go.Proofs
attribute [local congr] W_congr WPsq_congr WPp_congr optK_congr addrK_congr intK_congr boolK_congr sliceK_congr tupleK_congr funcK_congr Fn_congr rawK_congr takeK_congr stepK_congr convK_congr aggK_congr

theorem FldsV.lit {w : World} {b : Nat} {fr : Nat × Nat} {T : TypeId} {fs : List Fld} {css : List (List Value)} (h : blk w b = some (css.flatten.toArray,T,fr)) (hl : ∀ cs ∈ css,cs.length = 8) (ha : All2 (FldC AnyB w) fs css) :
    FldsV AnyB w (.slice (some ⟨b,0,none⟩) fs.length fs.length) fs := by
  refine ⟨css,⟨some ⟨b,0,none⟩,fs.length,by rw [ha.1],by rw [ha.1];exact Nat.le_refl _,hl,.inr ⟨_,rfl,rfl,trivial,_,h,fun i hi => ?_⟩⟩,ha⟩
  simp only [Nat.zero_add,List.getElem?_toArray]
theorem FldsV.nil (w : World) : FldsV AnyB w (.slice none 0 0) [] := ⟨[],⟨none,0,rfl,Nat.le_refl _,by simp,.inl rfl⟩,rfl,fun i h => by simp at h⟩

theorem Write_fn {ok : Blocks} {d : Nat} (fs : List Fld) (flex ver : Int) (t : Tree) (vs : Value) (ct : List Value) (w : World) (hf : FldsV ok w vs fs) (hok : okF d fs = true) (ht : TreeC ok w t ct) (hsm : Small 4611686018427387903 t) (hlen : (partS (d + 1) fs ver (flexB flex ver) t).length ≤ 2 ^ 40) :
    Fn Tryz.prog 8 #[.agg #[vs,.int .i64 flex],.int .i64 ver,.agg ct.toArray] w fun r w' => OwnBy 5 w.heap.size w' r (partS (d + 1) fs ver (flexB flex ver) t) ∧ Ext w w' := by
  obtain ⟨vS,vL,vU,rfl,hn,hS,hL,hU⟩ := ht.inv
  have f0 := SlR.flat hf
  have f1 := hS.flat
  have f2 := SlR.flat hL
  have f3 := SlR.flat hU
  have hE : Ext w ((w.alloc (.cells #[vs,.int .i64 flex] 31)).alloc (.cells #[.int .i64 t.n,vS,.bool t.null,vL,vU] 26)) := Upd.alloc (Upd.alloc (Upd.refl _ _) _) _
  refine fn_of_W Tryz.func8 rfl Tryz.results8 Tryz.ntmps8 rfl ?_
  by_cases h1 : 0 ≤ flex
  · by_cases h2 : flex ≤ ver
    · have e : flexB flex ver = true := by simp [flexB,h1,h2]
      rw [e] at hlen ⊢
      repeat ((first | refine qA rfl ?_|apply qB|refine qC rfl ?_|apply qD|apply qE|apply qF|apply qG|apply qH);try simp (disch:=(first|omega|(simp only [qI,qJ,qK]<;>omega)|exact qL _)) only [go_sem,↓reduceIte,n0,reduceCtorEq,n1,n2,n3,n4,n5,i0,i1,i2,i3,i4,i5,i6,i7,f0,f1,f2,f3,cellsAt_five,cellsAt_two])
      refine (part_ok (ok := ok) d fs ver true t vs _ _ (hf.keep (hE.keeps _)) hok (ht.keep (hE.keeps _)) hsm hlen).mono ?_
      rintro r w' ⟨ho,he⟩
      repeat ((first | refine qA rfl ?_|apply qB|refine qC rfl ?_|apply qD|apply qE|apply qF|apply qG|apply qH);try simp (disch:=(first|omega|(simp only [qI,qJ,qK]<;>omega)|exact qL _)) only [go_sem,↓reduceIte,n0,reduceCtorEq,n1,n2,n3,n4,n5,i0,i1,i2,i3,i4,i5,i6,i7])
      exact ⟨ho.mono (by simp only [World.size_alloc];omega),hE.trans he⟩
    · have e : flexB flex ver = false := by simp [flexB,h2]
      rw [e] at hlen ⊢
      repeat ((first | refine qA rfl ?_|apply qB|refine qC rfl ?_|apply qD|apply qE|apply qF|apply qG|apply qH);try simp (disch:=(first|omega|(simp only [qI,qJ,qK]<;>omega)|exact qL _)) only [go_sem,↓reduceIte,n0,reduceCtorEq,n1,n2,n3,n4,n5,i0,i1,i2,i3,i4,i5,i6,i7,f0,f1,f2,f3,cellsAt_five,cellsAt_two])
      refine (part_ok (ok := ok) d fs ver false t vs _ _ (hf.keep (hE.keeps _)) hok (ht.keep (hE.keeps _)) hsm hlen).mono ?_
      rintro r w' ⟨ho,he⟩
      repeat ((first | refine qA rfl ?_|apply qB|refine qC rfl ?_|apply qD|apply qE|apply qF|apply qG|apply qH);try simp (disch:=(first|omega|(simp only [qI,qJ,qK]<;>omega)|exact qL _)) only [go_sem,↓reduceIte,n0,reduceCtorEq,n1,n2,n3,n4,n5,i0,i1,i2,i3,i4,i5,i6,i7])
      exact ⟨ho.mono (by simp only [World.size_alloc];omega),hE.trans he⟩
  · have e : flexB flex ver = false := by simp [flexB,h1]
    rw [e] at hlen ⊢
    repeat ((first | refine qA rfl ?_|apply qB|refine qC rfl ?_|apply qD|apply qE|apply qF|apply qG|apply qH);try simp (disch:=(first|omega|(simp only [qI,qJ,qK]<;>omega)|exact qL _)) only [go_sem,↓reduceIte,n0,reduceCtorEq,n1,n2,n3,n4,n5,i0,i1,i2,i3,i4,i5,i6,i7,f0,f1,f2,f3,cellsAt_five,cellsAt_two])
    refine (part_ok (ok := ok) d fs ver false t vs _ _ (hf.keep (hE.keeps _)) hok (ht.keep (hE.keeps _)) hsm hlen).mono ?_
    rintro r w' ⟨ho,he⟩
    repeat ((first | refine qA rfl ?_|apply qB|refine qC rfl ?_|apply qD|apply qE|apply qF|apply qG|apply qH);try simp (disch:=(first|omega|(simp only [qI,qJ,qK]<;>omega)|exact qL _)) only [go_sem,↓reduceIte,n0,reduceCtorEq,n1,n2,n3,n4,n5,i0,i1,i2,i3,i4,i5,i6,i7])
    exact ⟨ho.mono (by simp only [World.size_alloc];omega),hE.trans he⟩

theorem zzFits3_fn {ok : Blocks} (t : TagD) (ct : List Value) (w : World) (ht : TagC ok w t ct) : Fn Tryz.prog 20 #[.agg ct.toArray] w fun r w' => (∃ b,r = .bool b) ∧ Ext w w' := by
  obtain ⟨vv,rfl,hb,h32⟩ := ht
  obtain ⟨bv,cv,rfl,hcv⟩ := hb.shape
  have hE : Ext w (w.alloc (.cells #[.int .u32 t.1,.slice bv t.2.length cv] 55)) := Upd.alloc (Upd.refl _ _) _
  refine fn_of_W Tryz.func20 rfl Tryz.results20 Tryz.ntmps20 rfl ?_
  by_cases h1 : (2147483647 : Int) < (t.2.length : Int)
  · repeat ((first | refine qA rfl ?_|apply qB|refine qC rfl ?_|apply qD|apply qE|apply qF|apply qG|apply qH);try simp (disch:=(first|omega|(simp only [qI,qJ,qK]<;>omega)|exact qL _)) only [go_sem,↓reduceIte,n0,reduceCtorEq,n1,n2,n3,n4,n5,i0,i1,i2,i3,i4,i5,i6,i7])
    exact ⟨⟨_,rfl⟩,hE⟩
  · repeat ((first | refine qA rfl ?_|apply qB|refine qC rfl ?_|apply qD|apply qE|apply qF|apply qG|apply qH);try simp (disch:=(first|omega|(simp only [qI,qJ,qK]<;>omega)|exact qL _)) only [go_sem,↓reduceIte,n0,reduceCtorEq,n1,n2,n3,n4,n5,i0,i1,i2,i3,i4,i5,i6,i7])
    exact ⟨⟨_,rfl⟩,hE⟩

theorem zzFits2_fn {ok : Blocks} (l : List TagD) (vl : Value) (w : World) (hl : TagsV ok w vl l) (hlen : l.length ≤ 4611686018427387903) : Fn Tryz.prog 11 #[vl] w fun r w' => (∃ b,r = .bool b) ∧ Ext w w' := by
  obtain ⟨base,cap,rfl,hcap⟩ := SlR.shape hl
  refine fn_of_W Tryz.func11 rfl Tryz.results11 Tryz.ntmps11 rfl ?_
  by_cases h1 : (2147483647 : Int) < (l.length : Int)
  · repeat ((first | refine qA rfl ?_|apply qB|refine qC rfl ?_|apply qD|apply qE|apply qF|apply qG|apply qH);try simp (disch:=(first|omega|(simp only [qI,qJ,qK]<;>omega)|exact qL _)) only [go_sem,↓reduceIte,n0,reduceCtorEq,n1,n2,n3,n4,n5,i0,i1,i2,i3,i4,i5,i6,i7])
    exact ⟨⟨_,rfl⟩,Upd.refl _ _⟩
  · repeat ((first | refine qA rfl ?_|apply qB|refine qC rfl ?_|apply qD|apply qE|apply qF|apply qG|apply qH);try simp (disch:=(first|omega|(simp only [qI,qJ,qK]<;>omega)|exact qL _)) only [go_sem,↓reduceIte,n0,reduceCtorEq,n1,n2,n3,n4,n5,i0,i1,i2,i3,i4,i5,i6,i7])
    refine W.loop (fun ρ w' => ∃ j : Nat,j ≤ l.length ∧ ρ 10 = .int .i64 j ∧ ρ 9 = .int .i64 l.length ∧ ρ 8 = .slice base l.length cap ∧ Ext w w')
      (fun ρ _ => l.length - (RowKit.intOf (ρ 10)).toNat) ?_ ?_
    · refine ⟨0,Nat.zero_le _,?_,?_,?_,Upd.refl _ _⟩ <;> simp (disch:=(first|omega|(simp only [qI,qJ,qK]<;>omega)|exact qL _)) only [go_sem,↓reduceIte,n0,reduceCtorEq,n1,n2,n3,n4,n5,i0,i1,i2,i3,i4,i5,i6,i7]
      all_goals rfl
    · rintro ρ w1 ⟨j,hj,h10,h9,h8,hext⟩
      by_cases hlt : j < l.length
      · obtain ⟨_,b,o,x,vv,hb,hokb,hx,hblt,hxs,hxe,_,_,hfv,hbv,h32⟩ := TagsV.get hl hlt
        subst hb
        have hx1 : blk w1 b = some x := hext.blk_some hx id
        generalize l[j] = u at *
        have hE2 : Ext w1 (wr (w1.alloc (.cells #[.int .u32 0,.slice none 0 0] 55)) w1.heap.size 0 [.int .u32 u.1,vv]) := (Upd.alloc (Upd.refl _ _) _).wr _ _ (.inl (Nat.le_refl _))
        have hb2 : blk (wr (w1.alloc (.cells #[.int .u32 0,.slice none 0 0] 55)) w1.heap.size 0 [.int .u32 u.1,vv]) w1.heap.size = some (#[.int .u32 u.1,vv],55,(0,0)) := by simp (disch:=(first|omega|(simp only [qI,qJ,qK]<;>omega)|exact qL _)) only [go_sem,↓reduceIte,n0,reduceCtorEq,n1,n2,n3,n4,n5,i0,i1,i2,i3,i4,i5,i6,i7]
        repeat ((first | refine qA rfl ?_|apply qB|refine qC rfl ?_|apply qD|apply qE|apply qF|apply qG|apply qH);try simp (disch:=(first|omega|(simp only [qI,qJ,qK]<;>omega)|exact qL _)) only [go_sem,↓reduceIte,n0,reduceCtorEq,n1,n2,n3,n4,n5,i0,i1,i2,i3,i4,i5,i6,i7,h10,h9,h8,hx1,hxe,hfv,cellsAt_two,Int.toNat_natCast])
        generalize (wr (w1.alloc (.cells #[.int .u32 0,.slice none 0 0] 55)) w1.heap.size 0 [.int .u32 u.1,vv]) = w2 at *
        refine (zzFits3_fn (ok := ok) u _ w2 ⟨vv,rfl,hbv.keep (Ext.keeps (hext.trans hE2) _),h32⟩).mono ?_
        rintro r w3 ⟨⟨bb,rfl⟩,hE3⟩
        have hE03 : Ext w w3 := (hext.trans hE2).trans hE3
        cases bb with
        | true =>
          simp (disch:=(first|omega|(simp only [qI,qJ,qK]<;>omega)|exact qL _)) only [go_sem,↓reduceIte,n0,reduceCtorEq,n1,n2,n3,n4,n5,i0,i1,i2,i3,i4,i5,i6,i7]
          repeat ((first | refine qA rfl ?_|apply qB|refine qC rfl ?_|apply qD|apply qE|apply qF|apply qG|apply qH);try simp (disch:=(first|omega|(simp only [qI,qJ,qK]<;>omega)|exact qL _)) only [go_sem,↓reduceIte,n0,reduceCtorEq,n1,n2,n3,n4,n5,i0,i1,i2,i3,i4,i5,i6,i7,h10])
          refine ⟨⟨j + 1,by omega,rfl,h9,h8,hE03⟩,?_⟩
          simp only [RowKit.intOf];omega
        | false =>
          simp (disch:=(first|omega|(simp only [qI,qJ,qK]<;>omega)|exact qL _)) only [go_sem,↓reduceIte,n0,reduceCtorEq,n1,n2,n3,n4,n5,i0,i1,i2,i3,i4,i5,i6,i7]
          repeat ((first | refine qA rfl ?_|apply qB|refine qC rfl ?_|apply qD|apply qE|apply qF|apply qG|apply qH);try simp (disch:=(first|omega|(simp only [qI,qJ,qK]<;>omega)|exact qL _)) only [go_sem,↓reduceIte,n0,reduceCtorEq,n1,n2,n3,n4,n5,i0,i1,i2,i3,i4,i5,i6,i7,h10])
          exact ⟨⟨_,rfl⟩,hE03⟩
      · repeat ((first | refine qA rfl ?_|apply qB|refine qC rfl ?_|apply qD|apply qE|apply qF|apply qG|apply qH);try simp (disch:=(first|omega|(simp only [qI,qJ,qK]<;>omega)|exact qL _)) only [go_sem,↓reduceIte,n0,reduceCtorEq,n1,n2,n3,n4,n5,i0,i1,i2,i3,i4,i5,i6,i7,h10,h9])
        exact ⟨⟨_,rfl⟩,hext⟩

theorem zzFits1_fn {ok : Blocks} (t : Tree) (ct : List Value) (w : World) (ht : TreeC ok w t ct) (hsm : Small 4611686018427387903 t) : Fn Tryz.prog 4 #[.agg ct.toArray] w fun r w' => (∃ b,r = .bool b) ∧ Ext w w' := by
  obtain ⟨vS,vL,vU,rfl,hn,hS,hL,hU⟩ := ht.inv
  obtain ⟨bS,cS,rfl,hcS⟩ := hS.shape
  obtain ⟨bl,cl,rfl,hcl⟩ := SlR.shape hL
  have f3 := SlR.flat hU
  have hE : Ext w (w.alloc (.cells #[.int .i64 t.n,.slice bS t.s.length cS,.bool t.null,.slice bl t.l.length cl,vU] 26)) := Upd.alloc (Upd.refl _ _) _
  refine fn_of_W Tryz.func4 rfl Tryz.results4 Tryz.ntmps4 rfl ?_
  by_cases h1 : (2147483647 : Int) < (t.s.length : Int)
  · repeat ((first | refine qA rfl ?_|apply qB|refine qC rfl ?_|apply qD|apply qE|apply qF|apply qG|apply qH);try simp (disch:=(first|omega|(simp only [qI,qJ,qK]<;>omega)|exact qL _)) only [go_sem,↓reduceIte,n0,reduceCtorEq,n1,n2,n3,n4,n5,i0,i1,i2,i3,i4,i5,i6,i7,f3])
    exact ⟨⟨_,rfl⟩,hE⟩
  by_cases h2 : (2147483647 : Int) < (t.l.length : Int)
  · repeat ((first | refine qA rfl ?_|apply qB|refine qC rfl ?_|apply qD|apply qE|apply qF|apply qG|apply qH);try simp (disch:=(first|omega|(simp only [qI,qJ,qK]<;>omega)|exact qL _)) only [go_sem,↓reduceIte,n0,reduceCtorEq,n1,n2,n3,n4,n5,i0,i1,i2,i3,i4,i5,i6,i7,f3])
    exact ⟨⟨_,rfl⟩,hE⟩
  repeat ((first | refine qA rfl ?_|apply qB|refine qC rfl ?_|apply qD|apply qE|apply qF|apply qG|apply qH);try simp (disch:=(first|omega|(simp only [qI,qJ,qK]<;>omega)|exact qL _)) only [go_sem,↓reduceIte,n0,reduceCtorEq,n1,n2,n3,n4,n5,i0,i1,i2,i3,i4,i5,i6,i7,f3])
  refine (zzFits2_fn (ok := ok) t.u vU _ (hU.keep (hE.keeps _)) hsm.u).mono ?_
  rintro r w3 ⟨⟨bb,rfl⟩,hE3⟩
  cases bb with
  | true =>
    simp (disch:=(first|omega|(simp only [qI,qJ,qK]<;>omega)|exact qL _)) only [go_sem,↓reduceIte,n0,reduceCtorEq,n1,n2,n3,n4,n5,i0,i1,i2,i3,i4,i5,i6,i7]
    repeat ((first | refine qA rfl ?_|apply qB|refine qC rfl ?_|apply qD|apply qE|apply qF|apply qG|apply qH);try simp (disch:=(first|omega|(simp only [qI,qJ,qK]<;>omega)|exact qL _)) only [go_sem,↓reduceIte,n0,reduceCtorEq,n1,n2,n3,n4,n5,i0,i1,i2,i3,i4,i5,i6,i7])
    exact ⟨⟨_,rfl⟩,hE.trans hE3⟩
  | false =>
    simp (disch:=(first|omega|(simp only [qI,qJ,qK]<;>omega)|exact qL _)) only [go_sem,↓reduceIte,n0,reduceCtorEq,n1,n2,n3,n4,n5,i0,i1,i2,i3,i4,i5,i6,i7]
    repeat ((first | refine qA rfl ?_|apply qB|refine qC rfl ?_|apply qD|apply qE|apply qF|apply qG|apply qH);try simp (disch:=(first|omega|(simp only [qI,qJ,qK]<;>omega)|exact qL _)) only [go_sem,↓reduceIte,n0,reduceCtorEq,n1,n2,n3,n4,n5,i0,i1,i2,i3,i4,i5,i6,i7])
    exact ⟨⟨_,rfl⟩,hE.trans hE3⟩
end Ms

namespace Ms
open Go
variable {P : Program}
theorem wp_copyN {T X E : TypeId} (F : AppT P T X E 1 1) {w : World} {ρ : Regs} {d : Option Nat} {x y : Operand} {type : TypeId} {pos : String} {after : Array Edge} {guard : Option (Nat × Bool)} {K : Regs → World → Prop} {v : Value} {s : List UInt8} {ok : Blocks}
    (hx : ev ρ x = .slice none 0 0) (hy : ev ρ y = v) (hv : BytesV ok w v s) (hl : s.length ≤ 2 ^ 45)
    (hk : ∀ v' w',OwnBy E w.heap.size w' v' s → Ext w w' → (∀ b,ownB v' b → w.heap.size ≤ b) → K (put ρ d v') w') :
    rawK P { dst := d,op := .call { callee := .builtin .append,args := #[x,y],argTypes := #[T,X] },type := type,pos := pos,after := after,guard := guard } ρ w K := by
  refine wp_append F (B := w.heap.size) (n := 0) (cs := []) (m := s.length) (news := s.map byteV) hx hy (Own.nil _ _ _ _) rfl hv.src (Nat.le_refl _) (by omega) ?_
  intro v' w' h1 h2 h3
  refine hk v' w' ?_ (h2.mono ?_) ?_
  · rw [List.nil_append,Nat.zero_add] at h1;exact h1
  · rintro b ⟨a,n,c,h,_⟩;cases h
  · intro b hb
    rcases h3 b hb with ⟨a,n,c,h,_⟩ | h
    · cases h
    · exact h
end Ms

