/- A part of the proof: see the last text. -/
import Derived.Test.YtaebchgadbafjaaGreatC02
import Derived.Test.YtaebchgadbafjaaGreatC03
import Derived.Test.YtaebchgadbafjaaGreatC05
set_option linter.unusedSimpArgs false
set_option linter.unusedVariables false
namespace Ms
open Go.World renaming size_alloc → qI
open Ms renaming size_wr → qJ,size_drew → qK,not_noB → qL
open W renaming seqR → qA,seq → qB,regR → qC,condK → qD,block → qE,skip → qF,ret → qG,exit → qH
open Nat renaming reduceEqDiff → n0,reduceAdd → n1,reduceMul → n2,reduceSub → n3,reduceLT → n4,reduceLeDiff → n5
open Int renaming reduceEq → i0,reduceLT → i1,reduceLE → i2,reduceNeg → i3,reduceAdd → i4,reduceSub → i5,reduceMul → i6,reduceToNat → i7
set_option maxRecDepth 4000
open Go Go.Proofs
attribute [local congr] W_congr WPsq_congr WPp_congr optK_congr addrK_congr intK_congr boolK_congr sliceK_congr tupleK_congr funcK_congr Fn_congr rawK_congr takeK_congr stepK_congr convK_congr aggK_congr

def TreeR (ok : Blocks) (w : World) (w' : World) (r : Value) (t : Tree) : Prop := ∃ cs,r = .agg cs.toArray ∧ TreeC (okN ok w.heap.size) w' t cs
def FitOk (d : Nat) (ft : List Fld → Int → Tree → Tree) : Prop :=
  ∀ (ok : Blocks) (fs : List Fld) (ver : Int) (t : Tree) (vs : Value) (ct : List Value) (w : World),FldsV ok w vs fs → okF d fs = true → TreeC ok w t ct → Small 4611686018427387903 t →
    Fn Tryz.prog 11 #[vs,.int .i64 ver,.agg ct.toArray] w fun r w' => TreeR ok w w' r (ft fs ver t) ∧ Ext w w'
theorem bytes_nil (ok : Blocks) (w : World) : BytesV ok w (.slice none 0 0) [] := ⟨none,0,rfl,Nat.le_refl _,by simp,.inl rfl⟩
theorem trees_nil (ok : Blocks) (w : World) : TreesV ok w (.slice none 0 0) [] := ⟨[],⟨none,0,rfl,Nat.le_refl _,by simp,.inl rfl⟩,rfl,fun i h => by simp at h⟩
theorem tags_nil (ok : Blocks) (w : World) : TagsV ok w (.slice none 0 0) [] := ⟨[],⟨none,0,rfl,Nat.le_refl _,by simp,.inl rfl⟩,rfl,fun i h => by simp at h⟩

theorem fitted_k8 {d : Nat} {ft : List Fld → Int → Tree → Tree} (hft : FitOk d ft) {ok : Blocks} (f : Fld) (ver : Int) (t : Tree) (cf ct : List Value) (w : World) (hf : FldC ok w f cf) (hok : okF d f.sub = true) (hB : okB f) (ht : TreeC ok w t ct) (hsm : Small 4611686018427387903 t) (hk : f.kind = 8) :
    Fn Tryz.prog 21 #[.agg cf.toArray,.int .i64 ver,.agg ct.toArray] w fun r w' => TreeR ok w w' r (fittedS ft f ver t) ∧ Ext w w' := by
  obtain ⟨vs,rfl,hsub⟩ := hf.inv
  obtain ⟨vS,vL,vU,rfl,hn,hS,hL,hU⟩ := ht.inv
  have hl1 := hsm.s
  have hl2 := hsm.l
  have f0 := SlR.flat hsub
  have f1 := hS.flat
  have f2 := SlR.flat hL
  have f3 := SlR.flat hU
  have hE : Ext w (((w.alloc (.cells #[.int .i64 f.kind,.int .i64 f.fr,.int .i64 f.to,.int .i64 f.null,.int .i64 f.tag,.int .i64 f.df,.int .i64 f.of,vs] 50)).alloc (.cells #[.int .i64 t.n,vS,.bool t.null,vL,vU] 26)).alloc (.cells #[.int .i64 0,.slice none 0 0,.bool false,.slice none 0 0,.slice none 0 0] 26)) := Upd.alloc (Upd.alloc (Upd.alloc (Upd.refl _ _) _) _) _
  refine fn_of_W Tryz.func21 rfl Tryz.results21 Tryz.ntmps21 rfl ?_
  repeat ((first | refine qA rfl ?_|refine qB ?_|refine qC rfl ?_|refine qD ?_|refine qE ?_|refine qF ?_|refine qG ?_|refine qH ?_);try simp (maxSteps:=1000000)(disch:=(first|omega|(simp only [qI,qJ,qK]<;>omega)|exact qL _)) only [go_sem,↓reduceIte,n0,reduceCtorEq,n1,n2,n3,n4,n5,i0,i1,i2,i3,i4,i5,i6,i7,f0,f1,f2,f3,cellsAt_five,cellsAt_eight])
  have hb0 : blk (((w.alloc (.cells #[.int .i64 f.kind,.int .i64 f.fr,.int .i64 f.to,.int .i64 f.null,.int .i64 f.tag,.int .i64 f.df,.int .i64 f.of,vs] 50)).alloc (.cells #[.int .i64 t.n,vS,.bool t.null,vL,vU] 26)).alloc (.cells #[.int .i64 0,.slice none 0 0,.bool false,.slice none 0 0,.slice none 0 0] 26)) w.heap.size = some (#[.int .i64 f.kind,.int .i64 f.fr,.int .i64 f.to,.int .i64 f.null,.int .i64 f.tag,.int .i64 f.df,.int .i64 f.of,vs],50,(0,0)) := by
    rw [blk_alloc_old (by simp only [World.size_alloc];omega),blk_alloc_old (by simp only [World.size_alloc];omega),blk_alloc_new rfl]
  have hb1 : blk (((w.alloc (.cells #[.int .i64 f.kind,.int .i64 f.fr,.int .i64 f.to,.int .i64 f.null,.int .i64 f.tag,.int .i64 f.df,.int .i64 f.of,vs] 50)).alloc (.cells #[.int .i64 t.n,vS,.bool t.null,vL,vU] 26)).alloc (.cells #[.int .i64 0,.slice none 0 0,.bool false,.slice none 0 0,.slice none 0 0] 26)) (w.heap.size + 1) = some (#[.int .i64 t.n,vS,.bool t.null,vL,vU],26,(0,0)) := by
    rw [blk_alloc_old (by simp only [World.size_alloc];omega),blk_alloc_new (by simp only [World.size_alloc])]
  have hb2 : blk (((w.alloc (.cells #[.int .i64 f.kind,.int .i64 f.fr,.int .i64 f.to,.int .i64 f.null,.int .i64 f.tag,.int .i64 f.df,.int .i64 f.of,vs] 50)).alloc (.cells #[.int .i64 t.n,vS,.bool t.null,vL,vU] 26)).alloc (.cells #[.int .i64 0,.slice none 0 0,.bool false,.slice none 0 0,.slice none 0 0] 26)) (w.heap.size + 2) = some (#[.int .i64 0,.slice none 0 0,.bool false,.slice none 0 0,.slice none 0 0],26,(0,0)) := by
    rw [blk_alloc_new (by simp only [World.size_alloc])]
  have hz2 : (((w.alloc (.cells #[.int .i64 f.kind,.int .i64 f.fr,.int .i64 f.to,.int .i64 f.null,.int .i64 f.tag,.int .i64 f.df,.int .i64 f.of,vs] 50)).alloc (.cells #[.int .i64 t.n,vS,.bool t.null,vL,vU] 26)).alloc (.cells #[.int .i64 0,.slice none 0 0,.bool false,.slice none 0 0,.slice none 0 0] 26)).heap.size = w.heap.size + 3 := by simp only [World.size_alloc]
  generalize (((w.alloc (.cells #[.int .i64 f.kind,.int .i64 f.fr,.int .i64 f.to,.int .i64 f.null,.int .i64 f.tag,.int .i64 f.df,.int .i64 f.of,vs] 50)).alloc (.cells #[.int .i64 t.n,vS,.bool t.null,vL,vU] 26)).alloc (.cells #[.int .i64 0,.slice none 0 0,.bool false,.slice none 0 0,.slice none 0 0] 26)) = w2 at *
  refine (Null_fn f ver t _ _ w2 (FldC.of (hsub.keep (hE.keeps _))) (ht.keep (hE.keeps _))).mono ?_
  rintro v3 w3 ⟨rfl,hE3⟩
  have hE03 : Ext w w3 := hE.trans hE3
  have hz3 := hE3.size
  have hb03 := hE3.blk_some hb0 id
  have hb13 := hE3.blk_some hb1 id
  have hb23 := hE3.blk_some hb2 id
  repeat ((first | refine qA rfl ?_|refine qB ?_|refine qC rfl ?_|refine qD ?_|refine qE ?_|refine qF ?_|refine qG ?_|refine qH ?_);try simp (maxSteps:=1000000)(disch:=(first|omega|(simp only [qI,qJ,qK]<;>omega)|exact qL _)) only [go_sem,↓reduceIte,n0,reduceCtorEq,n1,n2,n3,n4,n5,i0,i1,i2,i3,i4,i5,i6,i7,hb03,hb13])
  refine (whole_fn (ok := fun b => ok b ∧ b < w.heap.size) t.s _ w3 ((hS.weaken fun b h1 h2 => ⟨h2,h1⟩).keep (hE03.keeps _))).mono ?_
  rintro v4 w4 ⟨hb4,hw4⟩
  obtain rfl := hw4.symm
  obtain ⟨b4,c4,rfl,hc4⟩ := hb4.shape
  simp (maxSteps:=1000000)(disch:=(first|omega|(simp only [qI,qJ,qK]<;>omega)|exact qL _)) only [go_sem,↓reduceIte,n0,reduceCtorEq,n1,n2,n3,n4,n5,i0,i1,i2,i3,i4,i5,i6,i7,hb23]
  repeat ((first | refine qA rfl ?_|refine qB ?_|refine qC rfl ?_|refine qD ?_|refine qE ?_|refine qF ?_|refine qG ?_|refine qH ?_);try simp (maxSteps:=1000000)(disch:=(first|omega|(simp only [qI,qJ,qK]<;>omega)|exact qL _)) only [go_sem,↓reduceIte,n0,reduceCtorEq,n1,n2,n3,n4,n5,i0,i1,i2,i3,i4,i5,i6,i7,hb23])
  have hE5 : Ext w (wr w3 (w.heap.size + 2) 0 [.int .i64 0,.slice b4 (wholeS t.s).length c4,.bool (nullS f ver t),.slice none 0 0,.slice none 0 0]) := hE03.wr _ _ (.inl (by omega))
  refine ⟨⟨_,rfl,?_⟩,hE5⟩
  have e : fittedS ft f ver t = .mk 0 (wholeS t.s) (nullS f ver t) [] [] := by simp [fittedS,fitOne,hk]
  rw [e]
  refine TreeC.intro rfl ?_ (trees_nil _ _) (tags_nil _ _)
  exact (hb4.keep (((Upd.refl (fun b => b = w.heap.size + 2) w3).wr 0 _ (.inr rfl)).keeps (fun b _ hk e => by omega))).weaken fun b _ hk => .inl hk.1

theorem fitted_k9 {d : Nat} {ft : List Fld → Int → Tree → Tree} (hft : FitOk d ft) {ok : Blocks} (f : Fld) (ver : Int) (t : Tree) (cf ct : List Value) (w : World) (hf : FldC ok w f cf) (hok : okF d f.sub = true) (hB : okB f) (ht : TreeC ok w t ct) (hsm : Small 4611686018427387903 t) (hk : f.kind = 9) :
    Fn Tryz.prog 21 #[.agg cf.toArray,.int .i64 ver,.agg ct.toArray] w fun r w' => TreeR ok w w' r (fittedS ft f ver t) ∧ Ext w w' := by
  obtain ⟨vs,rfl,hsub⟩ := hf.inv
  obtain ⟨vS,vL,vU,rfl,hn,hS,hL,hU⟩ := ht.inv
  have hl1 := hsm.s
  have hl2 := hsm.l
  have f0 := SlR.flat hsub
  have f1 := hS.flat
  have f2 := SlR.flat hL
  have f3 := SlR.flat hU
  have hE : Ext w (((w.alloc (.cells #[.int .i64 f.kind,.int .i64 f.fr,.int .i64 f.to,.int .i64 f.null,.int .i64 f.tag,.int .i64 f.df,.int .i64 f.of,vs] 50)).alloc (.cells #[.int .i64 t.n,vS,.bool t.null,vL,vU] 26)).alloc (.cells #[.int .i64 0,.slice none 0 0,.bool false,.slice none 0 0,.slice none 0 0] 26)) := Upd.alloc (Upd.alloc (Upd.alloc (Upd.refl _ _) _) _) _
  refine fn_of_W Tryz.func21 rfl Tryz.results21 Tryz.ntmps21 rfl ?_
  repeat ((first | refine qA rfl ?_|refine qB ?_|refine qC rfl ?_|refine qD ?_|refine qE ?_|refine qF ?_|refine qG ?_|refine qH ?_);try simp (maxSteps:=1000000)(disch:=(first|omega|(simp only [qI,qJ,qK]<;>omega)|exact qL _)) only [go_sem,↓reduceIte,n0,reduceCtorEq,n1,n2,n3,n4,n5,i0,i1,i2,i3,i4,i5,i6,i7,f0,f1,f2,f3,cellsAt_five,cellsAt_eight])
  have hb0 : blk (((w.alloc (.cells #[.int .i64 f.kind,.int .i64 f.fr,.int .i64 f.to,.int .i64 f.null,.int .i64 f.tag,.int .i64 f.df,.int .i64 f.of,vs] 50)).alloc (.cells #[.int .i64 t.n,vS,.bool t.null,vL,vU] 26)).alloc (.cells #[.int .i64 0,.slice none 0 0,.bool false,.slice none 0 0,.slice none 0 0] 26)) w.heap.size = some (#[.int .i64 f.kind,.int .i64 f.fr,.int .i64 f.to,.int .i64 f.null,.int .i64 f.tag,.int .i64 f.df,.int .i64 f.of,vs],50,(0,0)) := by
    rw [blk_alloc_old (by simp only [World.size_alloc];omega),blk_alloc_old (by simp only [World.size_alloc];omega),blk_alloc_new rfl]
  have hb1 : blk (((w.alloc (.cells #[.int .i64 f.kind,.int .i64 f.fr,.int .i64 f.to,.int .i64 f.null,.int .i64 f.tag,.int .i64 f.df,.int .i64 f.of,vs] 50)).alloc (.cells #[.int .i64 t.n,vS,.bool t.null,vL,vU] 26)).alloc (.cells #[.int .i64 0,.slice none 0 0,.bool false,.slice none 0 0,.slice none 0 0] 26)) (w.heap.size + 1) = some (#[.int .i64 t.n,vS,.bool t.null,vL,vU],26,(0,0)) := by
    rw [blk_alloc_old (by simp only [World.size_alloc];omega),blk_alloc_new (by simp only [World.size_alloc])]
  have hb2 : blk (((w.alloc (.cells #[.int .i64 f.kind,.int .i64 f.fr,.int .i64 f.to,.int .i64 f.null,.int .i64 f.tag,.int .i64 f.df,.int .i64 f.of,vs] 50)).alloc (.cells #[.int .i64 t.n,vS,.bool t.null,vL,vU] 26)).alloc (.cells #[.int .i64 0,.slice none 0 0,.bool false,.slice none 0 0,.slice none 0 0] 26)) (w.heap.size + 2) = some (#[.int .i64 0,.slice none 0 0,.bool false,.slice none 0 0,.slice none 0 0],26,(0,0)) := by
    rw [blk_alloc_new (by simp only [World.size_alloc])]
  have hz2 : (((w.alloc (.cells #[.int .i64 f.kind,.int .i64 f.fr,.int .i64 f.to,.int .i64 f.null,.int .i64 f.tag,.int .i64 f.df,.int .i64 f.of,vs] 50)).alloc (.cells #[.int .i64 t.n,vS,.bool t.null,vL,vU] 26)).alloc (.cells #[.int .i64 0,.slice none 0 0,.bool false,.slice none 0 0,.slice none 0 0] 26)).heap.size = w.heap.size + 3 := by simp only [World.size_alloc]
  generalize (((w.alloc (.cells #[.int .i64 f.kind,.int .i64 f.fr,.int .i64 f.to,.int .i64 f.null,.int .i64 f.tag,.int .i64 f.df,.int .i64 f.of,vs] 50)).alloc (.cells #[.int .i64 t.n,vS,.bool t.null,vL,vU] 26)).alloc (.cells #[.int .i64 0,.slice none 0 0,.bool false,.slice none 0 0,.slice none 0 0] 26)) = w2 at *
  refine (Null_fn f ver t _ _ w2 (FldC.of (hsub.keep (hE.keeps _))) (ht.keep (hE.keeps _))).mono ?_
  rintro v3 w3 ⟨rfl,hE3⟩
  have hE03 : Ext w w3 := hE.trans hE3
  have hz3 := hE3.size
  have hb03 := hE3.blk_some hb0 id
  have hb13 := hE3.blk_some hb1 id
  have hb23 := hE3.blk_some hb2 id
  repeat ((first | refine qA rfl ?_|refine qB ?_|refine qC rfl ?_|refine qD ?_|refine qE ?_|refine qF ?_|refine qG ?_|refine qH ?_);try simp (maxSteps:=1000000)(disch:=(first|omega|(simp only [qI,qJ,qK]<;>omega)|exact qL _)) only [go_sem,↓reduceIte,n0,reduceCtorEq,n1,n2,n3,n4,n5,i0,i1,i2,i3,i4,i5,i6,i7,hb03,hb13])
  refine (whole_fn (ok := fun b => ok b ∧ b < w.heap.size) t.s _ w3 ((hS.weaken fun b h1 h2 => ⟨h2,h1⟩).keep (hE03.keeps _))).mono ?_
  rintro v4 w4 ⟨hb4,hw4⟩
  obtain rfl := hw4.symm
  obtain ⟨b4,c4,rfl,hc4⟩ := hb4.shape
  simp (maxSteps:=1000000)(disch:=(first|omega|(simp only [qI,qJ,qK]<;>omega)|exact qL _)) only [go_sem,↓reduceIte,n0,reduceCtorEq,n1,n2,n3,n4,n5,i0,i1,i2,i3,i4,i5,i6,i7,hb23]
  repeat ((first | refine qA rfl ?_|refine qB ?_|refine qC rfl ?_|refine qD ?_|refine qE ?_|refine qF ?_|refine qG ?_|refine qH ?_);try simp (maxSteps:=1000000)(disch:=(first|omega|(simp only [qI,qJ,qK]<;>omega)|exact qL _)) only [go_sem,↓reduceIte,n0,reduceCtorEq,n1,n2,n3,n4,n5,i0,i1,i2,i3,i4,i5,i6,i7,hb23])
  have hE5 : Ext w (wr w3 (w.heap.size + 2) 0 [.int .i64 0,.slice b4 (wholeS t.s).length c4,.bool (nullS f ver t),.slice none 0 0,.slice none 0 0]) := hE03.wr _ _ (.inl (by omega))
  refine ⟨⟨_,rfl,?_⟩,hE5⟩
  have e : fittedS ft f ver t = .mk 0 (wholeS t.s) (nullS f ver t) [] [] := by simp [fittedS,fitOne,hk]
  rw [e]
  refine TreeC.intro rfl ?_ (trees_nil _ _) (tags_nil _ _)
  exact (hb4.keep (((Upd.refl (fun b => b = w.heap.size + 2) w3).wr 0 _ (.inr rfl)).keeps (fun b _ hk e => by omega))).weaken fun b _ hk => .inl hk.1

theorem fitted_k10 {d : Nat} {ft : List Fld → Int → Tree → Tree} (hft : FitOk d ft) {ok : Blocks} (f : Fld) (ver : Int) (t : Tree) (cf ct : List Value) (w : World) (hf : FldC ok w f cf) (hok : okF d f.sub = true) (hB : okB f) (ht : TreeC ok w t ct) (hsm : Small 4611686018427387903 t) (hk : f.kind = 10) :
    Fn Tryz.prog 21 #[.agg cf.toArray,.int .i64 ver,.agg ct.toArray] w fun r w' => TreeR ok w w' r (fittedS ft f ver t) ∧ Ext w w' := by
  obtain ⟨vs,rfl,hsub⟩ := hf.inv
  obtain ⟨vS,vL,vU,rfl,hn,hS,hL,hU⟩ := ht.inv
  have hl1 := hsm.s
  have hl2 := hsm.l
  have f0 := SlR.flat hsub
  have f1 := hS.flat
  have f2 := SlR.flat hL
  have f3 := SlR.flat hU
  have hE : Ext w (((w.alloc (.cells #[.int .i64 f.kind,.int .i64 f.fr,.int .i64 f.to,.int .i64 f.null,.int .i64 f.tag,.int .i64 f.df,.int .i64 f.of,vs] 50)).alloc (.cells #[.int .i64 t.n,vS,.bool t.null,vL,vU] 26)).alloc (.cells #[.int .i64 0,.slice none 0 0,.bool false,.slice none 0 0,.slice none 0 0] 26)) := Upd.alloc (Upd.alloc (Upd.alloc (Upd.refl _ _) _) _) _
  refine fn_of_W Tryz.func21 rfl Tryz.results21 Tryz.ntmps21 rfl ?_
  repeat ((first | refine qA rfl ?_|refine qB ?_|refine qC rfl ?_|refine qD ?_|refine qE ?_|refine qF ?_|refine qG ?_|refine qH ?_);try simp (maxSteps:=1000000)(disch:=(first|omega|(simp only [qI,qJ,qK]<;>omega)|exact qL _)) only [go_sem,↓reduceIte,n0,reduceCtorEq,n1,n2,n3,n4,n5,i0,i1,i2,i3,i4,i5,i6,i7,f0,f1,f2,f3,cellsAt_five,cellsAt_eight])
  have hb0 : blk (((w.alloc (.cells #[.int .i64 f.kind,.int .i64 f.fr,.int .i64 f.to,.int .i64 f.null,.int .i64 f.tag,.int .i64 f.df,.int .i64 f.of,vs] 50)).alloc (.cells #[.int .i64 t.n,vS,.bool t.null,vL,vU] 26)).alloc (.cells #[.int .i64 0,.slice none 0 0,.bool false,.slice none 0 0,.slice none 0 0] 26)) w.heap.size = some (#[.int .i64 f.kind,.int .i64 f.fr,.int .i64 f.to,.int .i64 f.null,.int .i64 f.tag,.int .i64 f.df,.int .i64 f.of,vs],50,(0,0)) := by
    rw [blk_alloc_old (by simp only [World.size_alloc];omega),blk_alloc_old (by simp only [World.size_alloc];omega),blk_alloc_new rfl]
  have hb1 : blk (((w.alloc (.cells #[.int .i64 f.kind,.int .i64 f.fr,.int .i64 f.to,.int .i64 f.null,.int .i64 f.tag,.int .i64 f.df,.int .i64 f.of,vs] 50)).alloc (.cells #[.int .i64 t.n,vS,.bool t.null,vL,vU] 26)).alloc (.cells #[.int .i64 0,.slice none 0 0,.bool false,.slice none 0 0,.slice none 0 0] 26)) (w.heap.size + 1) = some (#[.int .i64 t.n,vS,.bool t.null,vL,vU],26,(0,0)) := by
    rw [blk_alloc_old (by simp only [World.size_alloc];omega),blk_alloc_new (by simp only [World.size_alloc])]
  have hb2 : blk (((w.alloc (.cells #[.int .i64 f.kind,.int .i64 f.fr,.int .i64 f.to,.int .i64 f.null,.int .i64 f.tag,.int .i64 f.df,.int .i64 f.of,vs] 50)).alloc (.cells #[.int .i64 t.n,vS,.bool t.null,vL,vU] 26)).alloc (.cells #[.int .i64 0,.slice none 0 0,.bool false,.slice none 0 0,.slice none 0 0] 26)) (w.heap.size + 2) = some (#[.int .i64 0,.slice none 0 0,.bool false,.slice none 0 0,.slice none 0 0],26,(0,0)) := by
    rw [blk_alloc_new (by simp only [World.size_alloc])]
  have hz2 : (((w.alloc (.cells #[.int .i64 f.kind,.int .i64 f.fr,.int .i64 f.to,.int .i64 f.null,.int .i64 f.tag,.int .i64 f.df,.int .i64 f.of,vs] 50)).alloc (.cells #[.int .i64 t.n,vS,.bool t.null,vL,vU] 26)).alloc (.cells #[.int .i64 0,.slice none 0 0,.bool false,.slice none 0 0,.slice none 0 0] 26)).heap.size = w.heap.size + 3 := by simp only [World.size_alloc]
  generalize (((w.alloc (.cells #[.int .i64 f.kind,.int .i64 f.fr,.int .i64 f.to,.int .i64 f.null,.int .i64 f.tag,.int .i64 f.df,.int .i64 f.of,vs] 50)).alloc (.cells #[.int .i64 t.n,vS,.bool t.null,vL,vU] 26)).alloc (.cells #[.int .i64 0,.slice none 0 0,.bool false,.slice none 0 0,.slice none 0 0] 26)) = w2 at *
  refine (Null_fn f ver t _ _ w2 (FldC.of (hsub.keep (hE.keeps _))) (ht.keep (hE.keeps _))).mono ?_
  rintro v3 w3 ⟨rfl,hE3⟩
  have hE03 : Ext w w3 := hE.trans hE3
  have hz3 := hE3.size
  have hb03 := hE3.blk_some hb0 id
  have hb13 := hE3.blk_some hb1 id
  have hb23 := hE3.blk_some hb2 id
  repeat ((first | refine qA rfl ?_|refine qB ?_|refine qC rfl ?_|refine qD ?_|refine qE ?_|refine qF ?_|refine qG ?_|refine qH ?_);try simp (maxSteps:=1000000)(disch:=(first|omega|(simp only [qI,qJ,qK]<;>omega)|exact qL _)) only [go_sem,↓reduceIte,n0,reduceCtorEq,n1,n2,n3,n4,n5,i0,i1,i2,i3,i4,i5,i6,i7,hb03,hb13,cellsAt_five])
  refine (hft (fun b => ok b ∧ b < w.heap.size) f.sub ver t vs _ w3 ((hsub.weaken fun b h1 h2 => ⟨h2,h1⟩).keep (hE03.keeps _)) hok ((ht.weaken fun b h1 h2 => ⟨h2,h1⟩).keep (hE03.keeps _)) hsm).mono ?_
  rintro v4 w4 ⟨⟨c4,rfl,hc4⟩,hE4⟩
  obtain ⟨vS4,vL4,vU4,rfl,hn4,hS4,hL4,hU4⟩ := hc4.inv
  have g1 := hS4.flat
  have g2 := SlR.flat hL4
  have g3 := SlR.flat hU4
  have hz4 := hE4.size
  have hb24 := hE4.blk_some hb23 id
  simp (maxSteps:=1000000)(disch:=(first|omega|(simp only [qI,qJ,qK]<;>omega)|exact qL _)) only [go_sem,↓reduceIte,n0,reduceCtorEq,n1,n2,n3,n4,n5,i0,i1,i2,i3,i4,i5,i6,i7,g1,g2,g3,hb24,cellsAt_five]
  repeat ((first | refine qA rfl ?_|refine qB ?_|refine qC rfl ?_|refine qD ?_|refine qE ?_|refine qF ?_|refine qG ?_|refine qH ?_);try simp (maxSteps:=1000000)(disch:=(first|omega|(simp only [qI,qJ,qK]<;>omega)|exact qL _)) only [go_sem,↓reduceIte,n0,reduceCtorEq,n1,n2,n3,n4,n5,i0,i1,i2,i3,i4,i5,i6,i7,g1,g2,g3,hb24,cellsAt_five])
  have hU5 : Upd (fun b => b = w.heap.size + 2) w4 (wr (wr (wr (w4.alloc (.cells #[.int .i64 0,.slice none 0 0,.bool false,.slice none 0 0,.slice none 0 0] 26)) w4.heap.size 0 [.int .i64 (ft f.sub ver t).n,vS4,.bool (ft f.sub ver t).null,vL4,vU4]) w4.heap.size 2 [.bool (nullS f ver t)]) (w.heap.size + 2) 0 [.int .i64 (ft f.sub ver t).n,vS4,.bool (nullS f ver t),vL4,vU4]) :=
    ((((Upd.refl _ _).alloc _).wr _ _ (.inl (Nat.le_refl _))).wr _ _ (.inl (Nat.le_refl _))).wr _ _ (.inr rfl)
  have hE5 : Ext w (wr (wr (wr (w4.alloc (.cells #[.int .i64 0,.slice none 0 0,.bool false,.slice none 0 0,.slice none 0 0] 26)) w4.heap.size 0 [.int .i64 (ft f.sub ver t).n,vS4,.bool (ft f.sub ver t).null,vL4,vU4]) w4.heap.size 2 [.bool (nullS f ver t)]) (w.heap.size + 2) 0 [.int .i64 (ft f.sub ver t).n,vS4,.bool (nullS f ver t),vL4,vU4]) :=
    ((((hE03.trans hE4).alloc _).wr _ _ (.inl (by omega))).wr _ _ (.inl (by omega))).wr _ _ (.inl (by omega))
  refine ⟨⟨_,rfl,?_⟩,hE5⟩
  have e : fittedS ft f ver t = .mk (ft f.sub ver t).n (ft f.sub ver t).s (nullS f ver t) (ft f.sub ver t).l (ft f.sub ver t).u := by simp [fittedS,fitOne,hk,Tree.setNull]
  rw [e]
  have hk : Keeps (okN (fun b => ok b ∧ b < w.heap.size) w3.heap.size) w4 _ := hU5.keeps fun b _ hb e => by
    rcases hb with hb | hb
    · omega
    · omega
  have hw : ∀ b,okN (fun b => ok b ∧ b < w.heap.size) w3.heap.size b → okN ok w.heap.size b := fun b hb => hb.imp (fun h => h.1) (fun h => by omega)
  exact TreeC.intro hn4 ((hS4.keep hk).weaken fun b _ h => hw b h) ((hL4.keep hk).weaken fun b _ h => hw b h) ((hU4.keep hk).weaken fun b _ h => hw b h)

theorem fitted_kd {d : Nat} {ft : List Fld → Int → Tree → Tree} (hft : FitOk d ft) {ok : Blocks} (f : Fld) (ver : Int) (t : Tree) (cf ct : List Value) (w : World) (hf : FldC ok w f cf) (hok : okF d f.sub = true) (hB : okB f) (ht : TreeC ok w t ct) (hsm : Small 4611686018427387903 t) (h8 : f.kind ≠ 8) (h9 : f.kind ≠ 9) (h10 : f.kind ≠ 10) (h11 : f.kind ≠ 11) :
    Fn Tryz.prog 21 #[.agg cf.toArray,.int .i64 ver,.agg ct.toArray] w fun r w' => TreeR ok w w' r (fittedS ft f ver t) ∧ Ext w w' := by
  obtain ⟨vs,rfl,hsub⟩ := hf.inv
  obtain ⟨vS,vL,vU,rfl,hn,hS,hL,hU⟩ := ht.inv
  have hl1 := hsm.s
  have hl2 := hsm.l
  have f0 := SlR.flat hsub
  have f1 := hS.flat
  have f2 := SlR.flat hL
  have f3 := SlR.flat hU
  have hE : Ext w (((w.alloc (.cells #[.int .i64 f.kind,.int .i64 f.fr,.int .i64 f.to,.int .i64 f.null,.int .i64 f.tag,.int .i64 f.df,.int .i64 f.of,vs] 50)).alloc (.cells #[.int .i64 t.n,vS,.bool t.null,vL,vU] 26)).alloc (.cells #[.int .i64 0,.slice none 0 0,.bool false,.slice none 0 0,.slice none 0 0] 26)) := Upd.alloc (Upd.alloc (Upd.alloc (Upd.refl _ _) _) _) _
  refine fn_of_W Tryz.func21 rfl Tryz.results21 Tryz.ntmps21 rfl ?_
  repeat ((first | refine qA rfl ?_|refine qB ?_|refine qC rfl ?_|refine qD ?_|refine qE ?_|refine qF ?_|refine qG ?_|refine qH ?_);try simp (maxSteps:=1000000)(disch:=(first|omega|(simp only [qI,qJ,qK]<;>omega)|exact qL _)) only [go_sem,↓reduceIte,n0,reduceCtorEq,n1,n2,n3,n4,n5,i0,i1,i2,i3,i4,i5,i6,i7,f0,f1,f2,f3,cellsAt_five,cellsAt_eight])
  have hb0 : blk (((w.alloc (.cells #[.int .i64 f.kind,.int .i64 f.fr,.int .i64 f.to,.int .i64 f.null,.int .i64 f.tag,.int .i64 f.df,.int .i64 f.of,vs] 50)).alloc (.cells #[.int .i64 t.n,vS,.bool t.null,vL,vU] 26)).alloc (.cells #[.int .i64 0,.slice none 0 0,.bool false,.slice none 0 0,.slice none 0 0] 26)) w.heap.size = some (#[.int .i64 f.kind,.int .i64 f.fr,.int .i64 f.to,.int .i64 f.null,.int .i64 f.tag,.int .i64 f.df,.int .i64 f.of,vs],50,(0,0)) := by
    rw [blk_alloc_old (by simp only [World.size_alloc];omega),blk_alloc_old (by simp only [World.size_alloc];omega),blk_alloc_new rfl]
  have hb1 : blk (((w.alloc (.cells #[.int .i64 f.kind,.int .i64 f.fr,.int .i64 f.to,.int .i64 f.null,.int .i64 f.tag,.int .i64 f.df,.int .i64 f.of,vs] 50)).alloc (.cells #[.int .i64 t.n,vS,.bool t.null,vL,vU] 26)).alloc (.cells #[.int .i64 0,.slice none 0 0,.bool false,.slice none 0 0,.slice none 0 0] 26)) (w.heap.size + 1) = some (#[.int .i64 t.n,vS,.bool t.null,vL,vU],26,(0,0)) := by
    rw [blk_alloc_old (by simp only [World.size_alloc];omega),blk_alloc_new (by simp only [World.size_alloc])]
  have hb2 : blk (((w.alloc (.cells #[.int .i64 f.kind,.int .i64 f.fr,.int .i64 f.to,.int .i64 f.null,.int .i64 f.tag,.int .i64 f.df,.int .i64 f.of,vs] 50)).alloc (.cells #[.int .i64 t.n,vS,.bool t.null,vL,vU] 26)).alloc (.cells #[.int .i64 0,.slice none 0 0,.bool false,.slice none 0 0,.slice none 0 0] 26)) (w.heap.size + 2) = some (#[.int .i64 0,.slice none 0 0,.bool false,.slice none 0 0,.slice none 0 0],26,(0,0)) := by
    rw [blk_alloc_new (by simp only [World.size_alloc])]
  have hz2 : (((w.alloc (.cells #[.int .i64 f.kind,.int .i64 f.fr,.int .i64 f.to,.int .i64 f.null,.int .i64 f.tag,.int .i64 f.df,.int .i64 f.of,vs] 50)).alloc (.cells #[.int .i64 t.n,vS,.bool t.null,vL,vU] 26)).alloc (.cells #[.int .i64 0,.slice none 0 0,.bool false,.slice none 0 0,.slice none 0 0] 26)).heap.size = w.heap.size + 3 := by simp only [World.size_alloc]
  generalize (((w.alloc (.cells #[.int .i64 f.kind,.int .i64 f.fr,.int .i64 f.to,.int .i64 f.null,.int .i64 f.tag,.int .i64 f.df,.int .i64 f.of,vs] 50)).alloc (.cells #[.int .i64 t.n,vS,.bool t.null,vL,vU] 26)).alloc (.cells #[.int .i64 0,.slice none 0 0,.bool false,.slice none 0 0,.slice none 0 0] 26)) = w2 at *
  refine (Null_fn f ver t _ _ w2 (FldC.of (hsub.keep (hE.keeps _))) (ht.keep (hE.keeps _))).mono ?_
  rintro v3 w3 ⟨rfl,hE3⟩
  have hE03 : Ext w w3 := hE.trans hE3
  have hz3 := hE3.size
  have hb03 := hE3.blk_some hb0 id
  have hb13 := hE3.blk_some hb1 id
  have hb23 := hE3.blk_some hb2 id
  obtain ⟨bS,cS,rfl,hcS⟩ := hS.shape
  repeat ((first | refine qA rfl ?_|refine qB ?_|refine qC rfl ?_|refine qD ?_|refine qE ?_|refine qF ?_|refine qG ?_|refine qH ?_);try simp (maxSteps:=1000000)(disch:=(first|omega|(simp only [qI,qJ,qK]<;>omega)|exact qL _)) only [go_sem,↓reduceIte,n0,reduceCtorEq,n1,n2,n3,n4,n5,i0,i1,i2,i3,i4,i5,i6,i7,hb03,hb13,hb23])
  have hE5 : Ext w (wr w3 (w.heap.size + 2) 0 [.int .i64 t.n,.slice bS t.s.length cS,.bool false,.slice none 0 0,.slice none 0 0]) := hE03.wr _ _ (.inl (by omega))
  refine ⟨⟨_,rfl,?_⟩,hE5⟩
  have e : fittedS ft f ver t = .mk t.n t.s false [] [] := by simp [fittedS,fitOne,h8,h9,h10,h11]
  rw [e]
  exact TreeC.intro hn ((hS.keep (hE5.keeps _)).weaken fun b _ hk => .inl hk) (trees_nil _ _) (tags_nil _ _)

theorem fitted_one {d : Nat} {ft : List Fld → Int → Tree → Tree} (hft : FitOk d ft) {ok : Blocks} (f : Fld) (ver : Int) (t : Tree) (cf ct : List Value) (w : World) (hf : FldC ok w f cf) (hok : okF d f.sub = true) (hB : okB f) (ht : TreeC ok w t ct) (hsm : Small 4611686018427387903 t) (h11 : f.kind ≠ 11) :
    Fn Tryz.prog 21 #[.agg cf.toArray,.int .i64 ver,.agg ct.toArray] w fun r w' => TreeR ok w w' r (fittedS ft f ver t) ∧ Ext w w' := by
  by_cases h8 : f.kind = 8
  · exact fitted_k8 hft f ver t cf ct w hf hok hB ht hsm h8
  by_cases h9 : f.kind = 9
  · exact fitted_k9 hft f ver t cf ct w hf hok hB ht hsm h9
  by_cases h10 : f.kind = 10
  · exact fitted_k10 hft f ver t cf ct w hf hok hB ht hsm h10
  exact fitted_kd hft f ver t cf ct w hf hok hB ht hsm h8 h9 h10 h11
theorem fitted_of (ft : List Fld → Int → Tree → Tree) (a fr to df : Int) (sub : List Fld) (v : Int) (x : Tree) (h : a ≠ 11) : fittedS ft (.mk a fr to (-1) (-1) df a sub) v x = fitOne ft a sub false v x := by
  simp [fittedS,nullS,Fld.kind,Fld.null,Fld.sub,h]

theorem fitted_k11a {d : Nat} {ft : List Fld → Int → Tree → Tree} (hft : FitOk d ft) {ok : Blocks} (f : Fld) (ver : Int) (t : Tree) (cf ct : List Value) (w : World) (hf : FldC ok w f cf) (hok : okF d f.sub = true) (hB : okB f) (ht : TreeC ok w t ct) (hsm : Small 4611686018427387903 t) (hk : f.kind = 11) (hnul : nullS f ver t = true) :
    Fn Tryz.prog 21 #[.agg cf.toArray,.int .i64 ver,.agg ct.toArray] w fun r w' => TreeR ok w w' r (fittedS ft f ver t) ∧ Ext w w' := by
  obtain ⟨vs,rfl,hsub⟩ := hf.inv
  obtain ⟨vS,vL,vU,rfl,hn,hS,hL,hU⟩ := ht.inv
  have hl1 := hsm.s
  have hl2 := hsm.l
  have f0 := SlR.flat hsub
  have f1 := hS.flat
  have f2 := SlR.flat hL
  have f3 := SlR.flat hU
  have hE : Ext w (((w.alloc (.cells #[.int .i64 f.kind,.int .i64 f.fr,.int .i64 f.to,.int .i64 f.null,.int .i64 f.tag,.int .i64 f.df,.int .i64 f.of,vs] 50)).alloc (.cells #[.int .i64 t.n,vS,.bool t.null,vL,vU] 26)).alloc (.cells #[.int .i64 0,.slice none 0 0,.bool false,.slice none 0 0,.slice none 0 0] 26)) := Upd.alloc (Upd.alloc (Upd.alloc (Upd.refl _ _) _) _) _
  refine fn_of_W Tryz.func21 rfl Tryz.results21 Tryz.ntmps21 rfl ?_
  repeat ((first | refine qA rfl ?_|refine qB ?_|refine qC rfl ?_|refine qD ?_|refine qE ?_|refine qF ?_|refine qG ?_|refine qH ?_);try simp (maxSteps:=1000000)(disch:=(first|omega|(simp only [qI,qJ,qK]<;>omega)|exact qL _)) only [go_sem,↓reduceIte,n0,reduceCtorEq,n1,n2,n3,n4,n5,i0,i1,i2,i3,i4,i5,i6,i7,f0,f1,f2,f3,cellsAt_five,cellsAt_eight])
  have hb0 : blk (((w.alloc (.cells #[.int .i64 f.kind,.int .i64 f.fr,.int .i64 f.to,.int .i64 f.null,.int .i64 f.tag,.int .i64 f.df,.int .i64 f.of,vs] 50)).alloc (.cells #[.int .i64 t.n,vS,.bool t.null,vL,vU] 26)).alloc (.cells #[.int .i64 0,.slice none 0 0,.bool false,.slice none 0 0,.slice none 0 0] 26)) w.heap.size = some (#[.int .i64 f.kind,.int .i64 f.fr,.int .i64 f.to,.int .i64 f.null,.int .i64 f.tag,.int .i64 f.df,.int .i64 f.of,vs],50,(0,0)) := by
    rw [blk_alloc_old (by simp only [World.size_alloc];omega),blk_alloc_old (by simp only [World.size_alloc];omega),blk_alloc_new rfl]
  have hb1 : blk (((w.alloc (.cells #[.int .i64 f.kind,.int .i64 f.fr,.int .i64 f.to,.int .i64 f.null,.int .i64 f.tag,.int .i64 f.df,.int .i64 f.of,vs] 50)).alloc (.cells #[.int .i64 t.n,vS,.bool t.null,vL,vU] 26)).alloc (.cells #[.int .i64 0,.slice none 0 0,.bool false,.slice none 0 0,.slice none 0 0] 26)) (w.heap.size + 1) = some (#[.int .i64 t.n,vS,.bool t.null,vL,vU],26,(0,0)) := by
    rw [blk_alloc_old (by simp only [World.size_alloc];omega),blk_alloc_new (by simp only [World.size_alloc])]
  have hb2 : blk (((w.alloc (.cells #[.int .i64 f.kind,.int .i64 f.fr,.int .i64 f.to,.int .i64 f.null,.int .i64 f.tag,.int .i64 f.df,.int .i64 f.of,vs] 50)).alloc (.cells #[.int .i64 t.n,vS,.bool t.null,vL,vU] 26)).alloc (.cells #[.int .i64 0,.slice none 0 0,.bool false,.slice none 0 0,.slice none 0 0] 26)) (w.heap.size + 2) = some (#[.int .i64 0,.slice none 0 0,.bool false,.slice none 0 0,.slice none 0 0],26,(0,0)) := by
    rw [blk_alloc_new (by simp only [World.size_alloc])]
  have hz2 : (((w.alloc (.cells #[.int .i64 f.kind,.int .i64 f.fr,.int .i64 f.to,.int .i64 f.null,.int .i64 f.tag,.int .i64 f.df,.int .i64 f.of,vs] 50)).alloc (.cells #[.int .i64 t.n,vS,.bool t.null,vL,vU] 26)).alloc (.cells #[.int .i64 0,.slice none 0 0,.bool false,.slice none 0 0,.slice none 0 0] 26)).heap.size = w.heap.size + 3 := by simp only [World.size_alloc]
  generalize (((w.alloc (.cells #[.int .i64 f.kind,.int .i64 f.fr,.int .i64 f.to,.int .i64 f.null,.int .i64 f.tag,.int .i64 f.df,.int .i64 f.of,vs] 50)).alloc (.cells #[.int .i64 t.n,vS,.bool t.null,vL,vU] 26)).alloc (.cells #[.int .i64 0,.slice none 0 0,.bool false,.slice none 0 0,.slice none 0 0] 26)) = w2 at *
  refine (Null_fn f ver t _ _ w2 (FldC.of (hsub.keep (hE.keeps _))) (ht.keep (hE.keeps _))).mono ?_
  rintro v3 w3 ⟨rfl,hE3⟩
  have hE03 : Ext w w3 := hE.trans hE3
  have hz3 := hE3.size
  have hb03 := hE3.blk_some hb0 id
  have hb13 := hE3.blk_some hb1 id
  have hb23 := hE3.blk_some hb2 id
  obtain ⟨bL,cL,rfl,hcL⟩ := SlR.shape hL
  repeat ((first | refine qA rfl ?_|refine qB ?_|refine qC rfl ?_|refine qD ?_|refine qE ?_|refine qF ?_|refine qG ?_|refine qH ?_);try simp (maxSteps:=1000000)(disch:=(first|omega|(simp only [qI,qJ,qK]<;>omega)|exact qL _)) only [go_sem,↓reduceIte,n0,reduceCtorEq,n1,n2,n3,n4,n5,i0,i1,i2,i3,i4,i5,i6,i7,hb03,hb13,hnul,f0,cellsAt_eight])
  have hE4 : Ext w3 (wr (wr (wr (wr ((wr (w3.alloc (.cells #[.int .i64 0,.slice none 0 0,.bool false,.slice none 0 0,.slice none 0 0] 26)) w3.heap.size 0 [.int .i64 0,.slice none 0 0,.bool true,.slice none 0 0,.slice none 0 0]).alloc (.cells #[.int .i64 0,.int .i64 0,.int .i64 0,.int .i64 0,.int .i64 0,.int .i64 0,.int .i64 0,.slice none 0 0] 50)) (w3.heap.size + 1) 0 [.int .i64 f.kind,.int .i64 f.fr,.int .i64 f.to,.int .i64 f.null,.int .i64 f.tag,.int .i64 f.df,.int .i64 f.of,vs]) (w3.heap.size + 1) 0 [.int .i64 f.of]) (w3.heap.size + 1) 3 [.int .i64 (-1)]) (w3.heap.size + 1) 4 [.int .i64 (-1)]) := ((((((Upd.refl _ _).alloc _).wr _ _ (.inl (Nat.le_refl _))).alloc _).wr _ _ (.inl (by omega))).wr _ _ (.inl (by omega))).wr _ _ (.inl (by omega)) |>.wr _ _ (.inl (by omega))
  have hb34 : blk (wr (wr (wr (wr ((wr (w3.alloc (.cells #[.int .i64 0,.slice none 0 0,.bool false,.slice none 0 0,.slice none 0 0] 26)) w3.heap.size 0 [.int .i64 0,.slice none 0 0,.bool true,.slice none 0 0,.slice none 0 0]).alloc (.cells #[.int .i64 0,.int .i64 0,.int .i64 0,.int .i64 0,.int .i64 0,.int .i64 0,.int .i64 0,.slice none 0 0] 50)) (w3.heap.size + 1) 0 [.int .i64 f.kind,.int .i64 f.fr,.int .i64 f.to,.int .i64 f.null,.int .i64 f.tag,.int .i64 f.df,.int .i64 f.of,vs]) (w3.heap.size + 1) 0 [.int .i64 f.of]) (w3.heap.size + 1) 3 [.int .i64 (-1)]) (w3.heap.size + 1) 4 [.int .i64 (-1)]) w3.heap.size = some (#[.int .i64 0,.slice none 0 0,.bool true,.slice none 0 0,.slice none 0 0],26,(0,0)) := by simp (maxSteps:=1000000)(disch:=(first|omega|(simp only [qI,qJ,qK]<;>omega)|exact qL _)) only [go_sem,↓reduceIte,n0,reduceCtorEq,n1,n2,n3,n4,n5,i0,i1,i2,i3,i4,i5,i6,i7]
  have hb44 : blk (wr (wr (wr (wr ((wr (w3.alloc (.cells #[.int .i64 0,.slice none 0 0,.bool false,.slice none 0 0,.slice none 0 0] 26)) w3.heap.size 0 [.int .i64 0,.slice none 0 0,.bool true,.slice none 0 0,.slice none 0 0]).alloc (.cells #[.int .i64 0,.int .i64 0,.int .i64 0,.int .i64 0,.int .i64 0,.int .i64 0,.int .i64 0,.slice none 0 0] 50)) (w3.heap.size + 1) 0 [.int .i64 f.kind,.int .i64 f.fr,.int .i64 f.to,.int .i64 f.null,.int .i64 f.tag,.int .i64 f.df,.int .i64 f.of,vs]) (w3.heap.size + 1) 0 [.int .i64 f.of]) (w3.heap.size + 1) 3 [.int .i64 (-1)]) (w3.heap.size + 1) 4 [.int .i64 (-1)]) (w3.heap.size + 1) = some (#[.int .i64 f.of,.int .i64 f.fr,.int .i64 f.to,.int .i64 (-1),.int .i64 (-1),.int .i64 f.df,.int .i64 f.of,vs],50,(0,0)) := by simp (maxSteps:=1000000)(disch:=(first|omega|(simp only [qI,qJ,qK]<;>omega)|exact qL _)) only [go_sem,↓reduceIte,n0,reduceCtorEq,n1,n2,n3,n4,n5,i0,i1,i2,i3,i4,i5,i6,i7]
  have hz4 : (wr (wr (wr (wr ((wr (w3.alloc (.cells #[.int .i64 0,.slice none 0 0,.bool false,.slice none 0 0,.slice none 0 0] 26)) w3.heap.size 0 [.int .i64 0,.slice none 0 0,.bool true,.slice none 0 0,.slice none 0 0]).alloc (.cells #[.int .i64 0,.int .i64 0,.int .i64 0,.int .i64 0,.int .i64 0,.int .i64 0,.int .i64 0,.slice none 0 0] 50)) (w3.heap.size + 1) 0 [.int .i64 f.kind,.int .i64 f.fr,.int .i64 f.to,.int .i64 f.null,.int .i64 f.tag,.int .i64 f.df,.int .i64 f.of,vs]) (w3.heap.size + 1) 0 [.int .i64 f.of]) (w3.heap.size + 1) 3 [.int .i64 (-1)]) (w3.heap.size + 1) 4 [.int .i64 (-1)]).heap.size = w3.heap.size + 2 := by simp only [size_wr,World.size_alloc]
  generalize (wr (wr (wr (wr ((wr (w3.alloc (.cells #[.int .i64 0,.slice none 0 0,.bool false,.slice none 0 0,.slice none 0 0] 26)) w3.heap.size 0 [.int .i64 0,.slice none 0 0,.bool true,.slice none 0 0,.slice none 0 0]).alloc (.cells #[.int .i64 0,.int .i64 0,.int .i64 0,.int .i64 0,.int .i64 0,.int .i64 0,.int .i64 0,.slice none 0 0] 50)) (w3.heap.size + 1) 0 [.int .i64 f.kind,.int .i64 f.fr,.int .i64 f.to,.int .i64 f.null,.int .i64 f.tag,.int .i64 f.df,.int .i64 f.of,vs]) (w3.heap.size + 1) 0 [.int .i64 f.of]) (w3.heap.size + 1) 3 [.int .i64 (-1)]) (w3.heap.size + 1) 4 [.int .i64 (-1)]) = w4 at *
  have hE04 : Ext w w4 := hE03.trans hE4
  have hb24 := hE4.blk_some hb23 id
  refine (things_fn (ok := fun b => ok b ∧ b < w.heap.size) t.l _ w4 ((hL.weaken fun b h1 h2 => ⟨h2,h1⟩).keep (hE04.keeps _))).mono ?_
  rintro v5 w5 ⟨hL5,hw5⟩
  obtain rfl := hw5.symm
  obtain ⟨bl,cl,rfl,hcl⟩ := SlR.shape hL5
  simp (maxSteps:=1000000)(disch:=(first|omega|(simp only [qI,qJ,qK]<;>omega)|exact qL _)) only [go_sem,↓reduceIte,n0,reduceCtorEq,n1,n2,n3,n4,n5,i0,i1,i2,i3,i4,i5,i6,i7]
  repeat ((first | refine qA rfl ?_|refine qB ?_|refine qC rfl ?_|refine qD ?_|refine qE ?_|refine qF ?_|refine qG ?_|refine qH ?_);try simp (maxSteps:=1000000)(disch:=(first|omega|(simp only [qI,qJ,qK]<;>omega)|exact qL _)) only [go_sem,↓reduceIte,n0,reduceCtorEq,n1,n2,n3,n4,n5,i0,i1,i2,i3,i4,i5,i6,i7])
  have hlt : (thingsS t.l).length ≤ 32767 := by simp only [thingsS,List.length_take];omega
  have hsml : ∀ x ∈ thingsS t.l,Small 4611686018427387903 x := fun x hx => by
    obtain ⟨i,hi,rfl⟩ := List.getElem_of_mem (List.mem_of_mem_take hx)
    exact hsm.e i hi
  have e : fittedS ft f ver t = .mk 0 [] true ((thingsS t.l).map fun x => fitOne ft f.of f.sub false ver x) [] := by simp [fittedS,hk,hnul]
  rw [e]
  generalize thingsS t.l = L at *
  have hof : 0 ≤ f.of ∧ f.of ≤ 10 := ⟨hB.2.2.2.2.2.2.1,hB.2.2.2.2.2.2.2⟩
  refine W.loop (fun ρ w' => ∃ (j : Nat) (v : Value),j ≤ L.length ∧ ρ 62 = .int .i64 j ∧ ρ 61 = .int .i64 L.length ∧ ρ 60 = .slice bl L.length cl ∧ ρ 1 = .int .i64 ver ∧ ρ 9 = .pointer (some ⟨w3.heap.size,0,none⟩) ∧ ρ 10 = .pointer (some ⟨w3.heap.size + 1,0,none⟩) ∧ ρ 6 = .pointer (some ⟨w.heap.size + 2,0,none⟩) ∧
      blk w' w3.heap.size = some (#[.int .i64 0,.slice none 0 0,.bool true,v,.slice none 0 0],26,(0,0)) ∧
      GrowT (fun b => okN ok w.heap.size b ∧ b ≠ w.heap.size + 2) w4.heap.size w3.heap.size w' 26 v ((L.take j).map fun x => fitOne ft f.of f.sub false ver x) ∧ Upd (fun b => b = w3.heap.size) w4 w')
    (fun ρ _ => L.length - (RowKit.intOf (ρ 62)).toNat) ?_ ?_
  · refine ⟨0,_,Nat.zero_le _,?_,?_,?_,?_,?_,?_,?_,hb34,GrowT.nil _ _ _ _ _,Upd.refl _ _⟩ <;> simp (maxSteps:=1000000)(disch:=(first|omega|(simp only [qI,qJ,qK]<;>omega)|exact qL _)) only [go_sem,↓reduceIte,n0,reduceCtorEq,n1,n2,n3,n4,n5,i0,i1,i2,i3,i4,i5,i6,i7]
    all_goals rfl
  · rintro ρ w6 ⟨j,v,hj,h62,h61,h60,h1,h9,h10,h6,hbt,hg,hU6⟩
    have hz6 := hU6.size
    by_cases hlt2 : j < L.length
    · obtain ⟨_,b,o,x,vS',vL',vU',hb,hokb,hx,hblt,hxs,hxe,g1,g2,g3,hc⟩ := TreesV.get hL5 hlt2
      subst hb
      have hx6 : blk w6 b = some x := hU6.blk_some hx (by have := hokb.2;omega)
      have hb46 := hU6.blk_some hb44 (by omega)
      have hcat : ((L.take (j + 1)).map fun x => fitOne ft f.of f.sub false ver x) = ((L.take j).map fun x => fitOne ft f.of f.sub false ver x) ++ [fitOne ft f.of f.sub false ver L[j]] := by
        rw [List.take_succ_eq_append_getElem hlt2]
        simp only [List.map_append,List.map_cons,List.map_nil]
      have hnb : ∀ b,b < w4.heap.size ∨ b = w6.heap.size → ¬ ownB v b := fun b hb h => by
        have := hg.above h
        have := hg.below h
        omega
      have hE7 : Ext w6 (wr (w6.alloc (.cells #[.int .i64 0,.slice none 0 0,.bool false,.slice none 0 0,.slice none 0 0] 26)) w6.heap.size 0 [.int .i64 L[j].n,vS',.bool L[j].null,vL',vU']) := (Upd.alloc (Upd.refl _ _) _).wr _ _ (.inl (Nat.le_refl _))
      have hb7 : blk (wr (w6.alloc (.cells #[.int .i64 0,.slice none 0 0,.bool false,.slice none 0 0,.slice none 0 0] 26)) w6.heap.size 0 [.int .i64 L[j].n,vS',.bool L[j].null,vL',vU']) w6.heap.size = some (#[.int .i64 L[j].n,vS',.bool L[j].null,vL',vU'],26,(0,0)) := by simp (maxSteps:=1000000)(disch:=(first|omega|(simp only [qI,qJ,qK]<;>omega)|exact qL _)) only [go_sem,↓reduceIte,n0,reduceCtorEq,n1,n2,n3,n4,n5,i0,i1,i2,i3,i4,i5,i6,i7]
      have hz7 : (wr (w6.alloc (.cells #[.int .i64 0,.slice none 0 0,.bool false,.slice none 0 0,.slice none 0 0] 26)) w6.heap.size 0 [.int .i64 L[j].n,vS',.bool L[j].null,vL',vU']).heap.size = w6.heap.size + 1 := by simp only [size_wr,World.size_alloc]
      have hsmj := hsml L[j] (List.getElem_mem hlt2)
      repeat ((first | refine qA rfl ?_|refine qB ?_|refine qC rfl ?_|refine qD ?_|refine qE ?_|refine qF ?_|refine qG ?_|refine qH ?_);try simp (maxSteps:=1000000)(disch:=(first|omega|(simp only [qI,qJ,qK]<;>omega)|exact qL _)) only [go_sem,↓reduceIte,n0,reduceCtorEq,n1,n2,n3,n4,n5,i0,i1,i2,i3,i4,i5,i6,i7,h62,h61,h60,hx6,hxe,g1,g2,g3,cellsAt_five,Int.toNat_natCast])
      generalize (wr (w6.alloc (.cells #[.int .i64 0,.slice none 0 0,.bool false,.slice none 0 0,.slice none 0 0] 26)) w6.heap.size 0 [.int .i64 L[j].n,vS',.bool L[j].null,vL',vU']) = w7 at *
      have hbt7 := hE7.blk_some hbt id
      have hb47 := hE7.blk_some hb46 id
      refine W.drawR (.take 0 (.take 1 (.take 2 (.take 3 (.take 4 (.only 5 (.only 6 (.only 7 (.take 8 (.last 9)))))))))) (ownB v) mixed (by kernel_rfl) ?_
      simp (maxSteps:=1000000)(disch:=(first|omega|(simp only [qI,qJ,qK]<;>omega)|exact qL _ | (refine hnb _ ?_;first | omega | (simp only [World.size_alloc,size_wr,size_drew] <;> omega)))) only [go_sem,↓reduceIte,n0,reduceCtorEq,n1,n2,n3,n4,n5,i0,i1,i2,i3,i4,i5,i6,i7,h1,h9,h10,hbt7,hb47,hb7,cellsAt_five,cellsAt_eight]
      have hE7d : Ext w7 w7.drew := (Upd.refl _ _).drew
      have hK : Keeps (fun b => ok b ∧ b < w.heap.size) w4 w7.drew := fun b hb hk => by
        rw [hE7d.keep b (by have := hE7.size;omega) id,hE7.keep b (by omega) id,hU6.keep b hb (by have := hk.2;omega)]
      have hsubw : FldsV (fun b => ok b ∧ b < w.heap.size) w7.drew vs f.sub := ((hsub.weaken fun b h1 h2 => ⟨h2,h1⟩).keep (hE04.keeps _)).keep hK
      refine (fitted_one hft (.mk f.of f.fr f.to (-1) (-1) f.df f.of f.sub) ver L[j] _ _ w7.drew (FldC.intro hsubw) hok ⟨hof.1,Int.le_trans hof.2 (by decide),Int.le_refl (-1),(by decide : (-1 : Int) ≤ 1000),hB.2.2.2.2.1,hB.2.2.2.2.2.1,hof.1,hof.2⟩ (hc.keep hK) hsmj (by simp only [Fld.kind];omega)).mono ?_
      rintro v8 w8 ⟨⟨c8,rfl,hc8⟩,hE8⟩
      rw [fitted_of _ _ _ _ _ _ _ _ (by omega)] at hc8
      generalize fitOne ft f.of f.sub false ver L[j] = T at *
      obtain ⟨vS8,vL8,vU8,rfl,hn8,hS8,hL8,hU8⟩ := hc8.inv
      have k1 := hS8.flat
      have k2 := SlR.flat hL8
      have k3 := SlR.flat hU8
      have hz8 := hE8.size
      simp only [size_drew] at hz8
      have hM8 : Upd (ownB v) w7.drew w8 := hE8.mono (fun _ h => h.elim)
      have hE68 : Ext w6 w8 := (hE7.trans hE7d).trans hE8
      have hE9 : Ext w8 (w8.alloc (.cells #[.int .i64 T.n,vS8,.bool T.null,vL8,vU8] 26)) := Upd.alloc (Upd.refl _ _) _
      have hM9 : Upd (ownB v) w7.drew (w8.alloc (.cells #[.int .i64 T.n,vS8,.bool T.null,vL8,vU8] 26)) := hM8.alloc _
      refine ⟨hM8,?_⟩
      simp (maxSteps:=1000000)(disch:=(first|omega|(simp only [qI,qJ,qK]<;>omega)|exact qL _)) only [go_sem,↓reduceIte,n0,reduceCtorEq,n1,n2,n3,n4,n5,i0,i1,i2,i3,i4,i5,i6,i7,k1,k2,k3]
      refine ⟨hM9,?_⟩
      have hg9 := (hg.ext hE68).ext hE9
      have hx9 : TreeC (fun b => (okN ok w.heap.size b ∧ b ≠ w.heap.size + 2) ∧ b ≠ w3.heap.size ∧ ¬ ownB v b) (w8.alloc (.cells #[.int .i64 T.n,vS8,.bool T.null,vL8,vU8] 26)) T [.int .i64 T.n,vS8,.bool T.null,vL8,vU8] :=
        (hc8.keep (hE9.keeps _)).weaken fun b _ hk => by
          rcases hk with ⟨h1,h2⟩ | h2
          · exact ⟨⟨.inl h1,by omega⟩,by omega,fun h => by have := hg.above h;omega⟩
          · simp only [size_drew] at h2
            exact ⟨⟨.inr (by omega),by omega⟩,by omega,fun h => by have := hg.below h;omega⟩
      have hlen9 : ((L.take j).map fun x => fitOne ft f.of f.sub false ver x).length = j := by simp;omega
      obtain ⟨css,hown,hall⟩ := hg9.ex
      have hcl9 := hall.1
      refine wp_append ap_23_23 (m := 1) (news := [.int .i64 T.n,vS8,.bool T.null,vL8,vU8]) (n := css.length) (cs := css.flatten) (v := v) ?_ rfl hown.1 (all2_flat_tree hall) (Src.blk (fr := (0,0)) (T := 26) (blk_alloc_new rfl) rfl (flat_tree hx9).1) ?_ ?_ ?_
      · simp (maxSteps:=1000000)(disch:=(first|omega|(simp only [qI,qJ,qK]<;>omega)|exact qL _)) only [go_sem,↓reduceIte,n0,reduceCtorEq,n1,n2,n3,n4,n5,i0,i1,i2,i3,i4,i5,i6,i7]
      · simp only [World.size_alloc];omega
      · omega
      intro v' w10 ho hu hfr
      have hg10 := GrowT.snoc hown hall hx9 hu hfr ho
      have hz10 := hu.size
      simp only [World.size_alloc] at hz10
      obtain ⟨va,vc,hv',_⟩ := ho.shape
      subst hv'
      have hbt10 := (hM9.trans hu).blk_some (hE7d.blk_some hbt7 id) (hnb _ (by omega))
      have htb : ¬ ownB (.slice va (css.length + 1) vc) w3.heap.size := fun h => by
        rcases hfr _ h with h | h
        · exact hnb _ (.inl (by omega)) h
        · simp only [World.size_alloc] at h;omega
      simp (maxSteps:=1000000)(disch:=(first|omega|(simp only [qI,qJ,qK]<;>omega)|exact qL _)) only [go_sem,↓reduceIte,n0,reduceCtorEq,n1,n2,n3,n4,n5,i0,i1,i2,i3,i4,i5,i6,i7]
      refine ⟨hM9.trans hu,?_⟩
      simp (maxSteps:=1000000)(disch:=(first|omega|(simp only [qI,qJ,qK]<;>omega)|exact qL _)) only [go_sem,↓reduceIte,n0,reduceCtorEq,n1,n2,n3,n4,n5,i0,i1,i2,i3,i4,i5,i6,i7,h9,hbt10]
      repeat ((first | refine qA rfl ?_|refine qB ?_|refine qC rfl ?_|refine qD ?_|refine qE ?_|refine qF ?_|refine qG ?_|refine qH ?_);try simp (maxSteps:=1000000)(disch:=(first|omega|(simp only [qI,qJ,qK]<;>omega)|exact qL _)) only [go_sem,↓reduceIte,n0,reduceCtorEq,n1,n2,n3,n4,n5,i0,i1,i2,i3,i4,i5,i6,i7,h62])
      refine ⟨⟨j + 1,.slice va (css.length + 1) vc,by omega,rfl,h61,h60,h1,h9,h10,h6,?_,?_,?_⟩,?_⟩
      · simp (maxSteps:=1000000)(disch:=(first|omega|(simp only [qI,qJ,qK]<;>omega)|exact qL _)) only [go_sem,↓reduceIte,n0,reduceCtorEq,n1,n2,n3,n4,n5,i0,i1,i2,i3,i4,i5,i6,i7,hbt10]
      · rw [hcat];exact hg10.upd ((Upd.refl _ _).wr _ _ (.inr rfl)) htb
      · refine Upd.wr ?_ _ _ (.inr rfl)
        exact hU6.more (((hE68.trans hE9).mono fun _ h => h.elim).trans hu) fun b hb h => by have := hg.above h;omega
      · simp only [RowKit.intOf];omega
    · have hjl : j = L.length := by omega
      subst hjl
      rw [List.take_length] at hg
      obtain ⟨va,vc,hv',_⟩ := hg.shape
      subst hv'
      have hb26 := hU6.blk_some hb24 (by omega)
      repeat ((first | refine qA rfl ?_|refine qB ?_|refine qC rfl ?_|refine qD ?_|refine qE ?_|refine qF ?_|refine qG ?_|refine qH ?_);try simp (maxSteps:=1000000)(disch:=(first|omega|(simp only [qI,qJ,qK]<;>omega)|exact qL _)) only [go_sem,↓reduceIte,n0,reduceCtorEq,n1,n2,n3,n4,n5,i0,i1,i2,i3,i4,i5,i6,i7,h62,h61,h9,h6,hbt,hb26,cellsAt_five])
      have hEf : Ext w6 w6 := Upd.refl _ _
      have hE06 : Ext w w6 := hE04.more hU6 fun b hb h => by omega
      refine ⟨⟨_,rfl,?_⟩,hE06.wr _ _ (.inl (by omega))⟩
      have ht6 := hg.trees (ok' := fun b => okN ok w.heap.size b ∧ b ≠ w.heap.size + 2) (fun _ _ h => h) (fun b hb => ⟨.inr (by omega),by omega⟩)
      have hU7 : Upd (fun b => b = w.heap.size + 2) w6 (wr w6 (w.heap.size + 2) 0 [.int .i64 0,.slice none 0 0,.bool true,.slice va (L.map fun x => fitOne ft f.of f.sub false ver x).length vc,.slice none 0 0]) := (Upd.refl _ _).wr _ _ (.inr rfl)
      exact TreeC.intro rfl (bytes_nil _ _) ((ht6.keep (hU7.keeps fun b _ hk e => hk.2 e)).weaken fun b _ hk => hk.1) (tags_nil _ _)

theorem fitted_k11b {d : Nat} {ft : List Fld → Int → Tree → Tree} (hft : FitOk d ft) {ok : Blocks} (f : Fld) (ver : Int) (t : Tree) (cf ct : List Value) (w : World) (hf : FldC ok w f cf) (hok : okF d f.sub = true) (hB : okB f) (ht : TreeC ok w t ct) (hsm : Small 4611686018427387903 t) (hk : f.kind = 11) (hnul : nullS f ver t = false) (htg : f.tag < 0) :
    Fn Tryz.prog 21 #[.agg cf.toArray,.int .i64 ver,.agg ct.toArray] w fun r w' => TreeR ok w w' r (fittedS ft f ver t) ∧ Ext w w' := by
  obtain ⟨vs,rfl,hsub⟩ := hf.inv
  obtain ⟨vS,vL,vU,rfl,hn,hS,hL,hU⟩ := ht.inv
  have hl1 := hsm.s
  have hl2 := hsm.l
  have f0 := SlR.flat hsub
  have f1 := hS.flat
  have f2 := SlR.flat hL
  have f3 := SlR.flat hU
  have hE : Ext w (((w.alloc (.cells #[.int .i64 f.kind,.int .i64 f.fr,.int .i64 f.to,.int .i64 f.null,.int .i64 f.tag,.int .i64 f.df,.int .i64 f.of,vs] 50)).alloc (.cells #[.int .i64 t.n,vS,.bool t.null,vL,vU] 26)).alloc (.cells #[.int .i64 0,.slice none 0 0,.bool false,.slice none 0 0,.slice none 0 0] 26)) := Upd.alloc (Upd.alloc (Upd.alloc (Upd.refl _ _) _) _) _
  refine fn_of_W Tryz.func21 rfl Tryz.results21 Tryz.ntmps21 rfl ?_
  repeat ((first | refine qA rfl ?_|refine qB ?_|refine qC rfl ?_|refine qD ?_|refine qE ?_|refine qF ?_|refine qG ?_|refine qH ?_);try simp (maxSteps:=1000000)(disch:=(first|omega|(simp only [qI,qJ,qK]<;>omega)|exact qL _)) only [go_sem,↓reduceIte,n0,reduceCtorEq,n1,n2,n3,n4,n5,i0,i1,i2,i3,i4,i5,i6,i7,f0,f1,f2,f3,cellsAt_five,cellsAt_eight])
  have hb0 : blk (((w.alloc (.cells #[.int .i64 f.kind,.int .i64 f.fr,.int .i64 f.to,.int .i64 f.null,.int .i64 f.tag,.int .i64 f.df,.int .i64 f.of,vs] 50)).alloc (.cells #[.int .i64 t.n,vS,.bool t.null,vL,vU] 26)).alloc (.cells #[.int .i64 0,.slice none 0 0,.bool false,.slice none 0 0,.slice none 0 0] 26)) w.heap.size = some (#[.int .i64 f.kind,.int .i64 f.fr,.int .i64 f.to,.int .i64 f.null,.int .i64 f.tag,.int .i64 f.df,.int .i64 f.of,vs],50,(0,0)) := by
    rw [blk_alloc_old (by simp only [World.size_alloc];omega),blk_alloc_old (by simp only [World.size_alloc];omega),blk_alloc_new rfl]
  have hb1 : blk (((w.alloc (.cells #[.int .i64 f.kind,.int .i64 f.fr,.int .i64 f.to,.int .i64 f.null,.int .i64 f.tag,.int .i64 f.df,.int .i64 f.of,vs] 50)).alloc (.cells #[.int .i64 t.n,vS,.bool t.null,vL,vU] 26)).alloc (.cells #[.int .i64 0,.slice none 0 0,.bool false,.slice none 0 0,.slice none 0 0] 26)) (w.heap.size + 1) = some (#[.int .i64 t.n,vS,.bool t.null,vL,vU],26,(0,0)) := by
    rw [blk_alloc_old (by simp only [World.size_alloc];omega),blk_alloc_new (by simp only [World.size_alloc])]
  have hb2 : blk (((w.alloc (.cells #[.int .i64 f.kind,.int .i64 f.fr,.int .i64 f.to,.int .i64 f.null,.int .i64 f.tag,.int .i64 f.df,.int .i64 f.of,vs] 50)).alloc (.cells #[.int .i64 t.n,vS,.bool t.null,vL,vU] 26)).alloc (.cells #[.int .i64 0,.slice none 0 0,.bool false,.slice none 0 0,.slice none 0 0] 26)) (w.heap.size + 2) = some (#[.int .i64 0,.slice none 0 0,.bool false,.slice none 0 0,.slice none 0 0],26,(0,0)) := by
    rw [blk_alloc_new (by simp only [World.size_alloc])]
  have hz2 : (((w.alloc (.cells #[.int .i64 f.kind,.int .i64 f.fr,.int .i64 f.to,.int .i64 f.null,.int .i64 f.tag,.int .i64 f.df,.int .i64 f.of,vs] 50)).alloc (.cells #[.int .i64 t.n,vS,.bool t.null,vL,vU] 26)).alloc (.cells #[.int .i64 0,.slice none 0 0,.bool false,.slice none 0 0,.slice none 0 0] 26)).heap.size = w.heap.size + 3 := by simp only [World.size_alloc]
  generalize (((w.alloc (.cells #[.int .i64 f.kind,.int .i64 f.fr,.int .i64 f.to,.int .i64 f.null,.int .i64 f.tag,.int .i64 f.df,.int .i64 f.of,vs] 50)).alloc (.cells #[.int .i64 t.n,vS,.bool t.null,vL,vU] 26)).alloc (.cells #[.int .i64 0,.slice none 0 0,.bool false,.slice none 0 0,.slice none 0 0] 26)) = w2 at *
  refine (Null_fn f ver t _ _ w2 (FldC.of (hsub.keep (hE.keeps _))) (ht.keep (hE.keeps _))).mono ?_
  rintro v3 w3 ⟨rfl,hE3⟩
  have hE03 : Ext w w3 := hE.trans hE3
  have hz3 := hE3.size
  have hb03 := hE3.blk_some hb0 id
  have hb13 := hE3.blk_some hb1 id
  have hb23 := hE3.blk_some hb2 id
  obtain ⟨bL,cL,rfl,hcL⟩ := SlR.shape hL
  repeat ((first | refine qA rfl ?_|refine qB ?_|refine qC rfl ?_|refine qD ?_|refine qE ?_|refine qF ?_|refine qG ?_|refine qH ?_);try simp (maxSteps:=1000000)(disch:=(first|omega|(simp only [qI,qJ,qK]<;>omega)|exact qL _)) only [go_sem,↓reduceIte,n0,reduceCtorEq,n1,n2,n3,n4,n5,i0,i1,i2,i3,i4,i5,i6,i7,hb03,hb13,hnul,f0,cellsAt_eight])
  have hE4 : Ext w3 (wr (wr (wr (wr ((wr (w3.alloc (.cells #[.int .i64 0,.slice none 0 0,.bool false,.slice none 0 0,.slice none 0 0] 26)) w3.heap.size 0 [.int .i64 0,.slice none 0 0,.bool false,.slice none 0 0,.slice none 0 0]).alloc (.cells #[.int .i64 0,.int .i64 0,.int .i64 0,.int .i64 0,.int .i64 0,.int .i64 0,.int .i64 0,.slice none 0 0] 50)) (w3.heap.size + 1) 0 [.int .i64 f.kind,.int .i64 f.fr,.int .i64 f.to,.int .i64 f.null,.int .i64 f.tag,.int .i64 f.df,.int .i64 f.of,vs]) (w3.heap.size + 1) 0 [.int .i64 f.of]) (w3.heap.size + 1) 3 [.int .i64 (-1)]) (w3.heap.size + 1) 4 [.int .i64 (-1)]) := ((((((Upd.refl _ _).alloc _).wr _ _ (.inl (Nat.le_refl _))).alloc _).wr _ _ (.inl (by omega))).wr _ _ (.inl (by omega))).wr _ _ (.inl (by omega)) |>.wr _ _ (.inl (by omega))
  have hb34 : blk (wr (wr (wr (wr ((wr (w3.alloc (.cells #[.int .i64 0,.slice none 0 0,.bool false,.slice none 0 0,.slice none 0 0] 26)) w3.heap.size 0 [.int .i64 0,.slice none 0 0,.bool false,.slice none 0 0,.slice none 0 0]).alloc (.cells #[.int .i64 0,.int .i64 0,.int .i64 0,.int .i64 0,.int .i64 0,.int .i64 0,.int .i64 0,.slice none 0 0] 50)) (w3.heap.size + 1) 0 [.int .i64 f.kind,.int .i64 f.fr,.int .i64 f.to,.int .i64 f.null,.int .i64 f.tag,.int .i64 f.df,.int .i64 f.of,vs]) (w3.heap.size + 1) 0 [.int .i64 f.of]) (w3.heap.size + 1) 3 [.int .i64 (-1)]) (w3.heap.size + 1) 4 [.int .i64 (-1)]) w3.heap.size = some (#[.int .i64 0,.slice none 0 0,.bool false,.slice none 0 0,.slice none 0 0],26,(0,0)) := by simp (maxSteps:=1000000)(disch:=(first|omega|(simp only [qI,qJ,qK]<;>omega)|exact qL _)) only [go_sem,↓reduceIte,n0,reduceCtorEq,n1,n2,n3,n4,n5,i0,i1,i2,i3,i4,i5,i6,i7]
  have hb44 : blk (wr (wr (wr (wr ((wr (w3.alloc (.cells #[.int .i64 0,.slice none 0 0,.bool false,.slice none 0 0,.slice none 0 0] 26)) w3.heap.size 0 [.int .i64 0,.slice none 0 0,.bool false,.slice none 0 0,.slice none 0 0]).alloc (.cells #[.int .i64 0,.int .i64 0,.int .i64 0,.int .i64 0,.int .i64 0,.int .i64 0,.int .i64 0,.slice none 0 0] 50)) (w3.heap.size + 1) 0 [.int .i64 f.kind,.int .i64 f.fr,.int .i64 f.to,.int .i64 f.null,.int .i64 f.tag,.int .i64 f.df,.int .i64 f.of,vs]) (w3.heap.size + 1) 0 [.int .i64 f.of]) (w3.heap.size + 1) 3 [.int .i64 (-1)]) (w3.heap.size + 1) 4 [.int .i64 (-1)]) (w3.heap.size + 1) = some (#[.int .i64 f.of,.int .i64 f.fr,.int .i64 f.to,.int .i64 (-1),.int .i64 (-1),.int .i64 f.df,.int .i64 f.of,vs],50,(0,0)) := by simp (maxSteps:=1000000)(disch:=(first|omega|(simp only [qI,qJ,qK]<;>omega)|exact qL _)) only [go_sem,↓reduceIte,n0,reduceCtorEq,n1,n2,n3,n4,n5,i0,i1,i2,i3,i4,i5,i6,i7]
  have hz4 : (wr (wr (wr (wr ((wr (w3.alloc (.cells #[.int .i64 0,.slice none 0 0,.bool false,.slice none 0 0,.slice none 0 0] 26)) w3.heap.size 0 [.int .i64 0,.slice none 0 0,.bool false,.slice none 0 0,.slice none 0 0]).alloc (.cells #[.int .i64 0,.int .i64 0,.int .i64 0,.int .i64 0,.int .i64 0,.int .i64 0,.int .i64 0,.slice none 0 0] 50)) (w3.heap.size + 1) 0 [.int .i64 f.kind,.int .i64 f.fr,.int .i64 f.to,.int .i64 f.null,.int .i64 f.tag,.int .i64 f.df,.int .i64 f.of,vs]) (w3.heap.size + 1) 0 [.int .i64 f.of]) (w3.heap.size + 1) 3 [.int .i64 (-1)]) (w3.heap.size + 1) 4 [.int .i64 (-1)]).heap.size = w3.heap.size + 2 := by simp only [size_wr,World.size_alloc]
  generalize (wr (wr (wr (wr ((wr (w3.alloc (.cells #[.int .i64 0,.slice none 0 0,.bool false,.slice none 0 0,.slice none 0 0] 26)) w3.heap.size 0 [.int .i64 0,.slice none 0 0,.bool false,.slice none 0 0,.slice none 0 0]).alloc (.cells #[.int .i64 0,.int .i64 0,.int .i64 0,.int .i64 0,.int .i64 0,.int .i64 0,.int .i64 0,.slice none 0 0] 50)) (w3.heap.size + 1) 0 [.int .i64 f.kind,.int .i64 f.fr,.int .i64 f.to,.int .i64 f.null,.int .i64 f.tag,.int .i64 f.df,.int .i64 f.of,vs]) (w3.heap.size + 1) 0 [.int .i64 f.of]) (w3.heap.size + 1) 3 [.int .i64 (-1)]) (w3.heap.size + 1) 4 [.int .i64 (-1)]) = w4 at *
  have hE04 : Ext w w4 := hE03.trans hE4
  have hb24 := hE4.blk_some hb23 id
  refine (things_fn (ok := fun b => ok b ∧ b < w.heap.size) t.l _ w4 ((hL.weaken fun b h1 h2 => ⟨h2,h1⟩).keep (hE04.keeps _))).mono ?_
  rintro v5 w5 ⟨hL5,hw5⟩
  obtain rfl := hw5.symm
  obtain ⟨bl,cl,rfl,hcl⟩ := SlR.shape hL5
  simp (maxSteps:=1000000)(disch:=(first|omega|(simp only [qI,qJ,qK]<;>omega)|exact qL _)) only [go_sem,↓reduceIte,n0,reduceCtorEq,n1,n2,n3,n4,n5,i0,i1,i2,i3,i4,i5,i6,i7]
  repeat ((first | refine qA rfl ?_|refine qB ?_|refine qC rfl ?_|refine qD ?_|refine qE ?_|refine qF ?_|refine qG ?_|refine qH ?_);try simp (maxSteps:=1000000)(disch:=(first|omega|(simp only [qI,qJ,qK]<;>omega)|exact qL _)) only [go_sem,↓reduceIte,n0,reduceCtorEq,n1,n2,n3,n4,n5,i0,i1,i2,i3,i4,i5,i6,i7])
  have hlt : (thingsS t.l).length ≤ 32767 := by simp only [thingsS,List.length_take];omega
  have hsml : ∀ x ∈ thingsS t.l,Small 4611686018427387903 x := fun x hx => by
    obtain ⟨i,hi,rfl⟩ := List.getElem_of_mem (List.mem_of_mem_take hx)
    exact hsm.e i hi
  have e : fittedS ft f ver t = .mk 0 [] false ((thingsS t.l).map fun x => fitOne ft f.of f.sub false ver x) [] := by simp [fittedS,hk,hnul,show ¬ 0 ≤ f.tag by omega]
  rw [e]
  generalize thingsS t.l = L at *
  have hof : 0 ≤ f.of ∧ f.of ≤ 10 := ⟨hB.2.2.2.2.2.2.1,hB.2.2.2.2.2.2.2⟩
  refine W.loop (fun ρ w' => ∃ (j : Nat) (v : Value),j ≤ L.length ∧ ρ 62 = .int .i64 j ∧ ρ 61 = .int .i64 L.length ∧ ρ 60 = .slice bl L.length cl ∧ ρ 1 = .int .i64 ver ∧ ρ 9 = .pointer (some ⟨w3.heap.size,0,none⟩) ∧ ρ 10 = .pointer (some ⟨w3.heap.size + 1,0,none⟩) ∧ ρ 6 = .pointer (some ⟨w.heap.size + 2,0,none⟩) ∧
      blk w' w3.heap.size = some (#[.int .i64 0,.slice none 0 0,.bool false,v,.slice none 0 0],26,(0,0)) ∧
      GrowT (fun b => okN ok w.heap.size b ∧ b ≠ w.heap.size + 2) w4.heap.size w3.heap.size w' 26 v ((L.take j).map fun x => fitOne ft f.of f.sub false ver x) ∧ Upd (fun b => b = w3.heap.size) w4 w')
    (fun ρ _ => L.length - (RowKit.intOf (ρ 62)).toNat) ?_ ?_
  · refine ⟨0,_,Nat.zero_le _,?_,?_,?_,?_,?_,?_,?_,hb34,GrowT.nil _ _ _ _ _,Upd.refl _ _⟩ <;> simp (maxSteps:=1000000)(disch:=(first|omega|(simp only [qI,qJ,qK]<;>omega)|exact qL _)) only [go_sem,↓reduceIte,n0,reduceCtorEq,n1,n2,n3,n4,n5,i0,i1,i2,i3,i4,i5,i6,i7]
    all_goals rfl
  · rintro ρ w6 ⟨j,v,hj,h62,h61,h60,h1,h9,h10,h6,hbt,hg,hU6⟩
    have hz6 := hU6.size
    by_cases hlt2 : j < L.length
    · obtain ⟨_,b,o,x,vS',vL',vU',hb,hokb,hx,hblt,hxs,hxe,g1,g2,g3,hc⟩ := TreesV.get hL5 hlt2
      subst hb
      have hx6 : blk w6 b = some x := hU6.blk_some hx (by have := hokb.2;omega)
      have hb46 := hU6.blk_some hb44 (by omega)
      have hcat : ((L.take (j + 1)).map fun x => fitOne ft f.of f.sub false ver x) = ((L.take j).map fun x => fitOne ft f.of f.sub false ver x) ++ [fitOne ft f.of f.sub false ver L[j]] := by
        rw [List.take_succ_eq_append_getElem hlt2]
        simp only [List.map_append,List.map_cons,List.map_nil]
      have hnb : ∀ b,b < w4.heap.size ∨ b = w6.heap.size → ¬ ownB v b := fun b hb h => by
        have := hg.above h
        have := hg.below h
        omega
      have hE7 : Ext w6 (wr (w6.alloc (.cells #[.int .i64 0,.slice none 0 0,.bool false,.slice none 0 0,.slice none 0 0] 26)) w6.heap.size 0 [.int .i64 L[j].n,vS',.bool L[j].null,vL',vU']) := (Upd.alloc (Upd.refl _ _) _).wr _ _ (.inl (Nat.le_refl _))
      have hb7 : blk (wr (w6.alloc (.cells #[.int .i64 0,.slice none 0 0,.bool false,.slice none 0 0,.slice none 0 0] 26)) w6.heap.size 0 [.int .i64 L[j].n,vS',.bool L[j].null,vL',vU']) w6.heap.size = some (#[.int .i64 L[j].n,vS',.bool L[j].null,vL',vU'],26,(0,0)) := by simp (maxSteps:=1000000)(disch:=(first|omega|(simp only [qI,qJ,qK]<;>omega)|exact qL _)) only [go_sem,↓reduceIte,n0,reduceCtorEq,n1,n2,n3,n4,n5,i0,i1,i2,i3,i4,i5,i6,i7]
      have hz7 : (wr (w6.alloc (.cells #[.int .i64 0,.slice none 0 0,.bool false,.slice none 0 0,.slice none 0 0] 26)) w6.heap.size 0 [.int .i64 L[j].n,vS',.bool L[j].null,vL',vU']).heap.size = w6.heap.size + 1 := by simp only [size_wr,World.size_alloc]
      have hsmj := hsml L[j] (List.getElem_mem hlt2)
      repeat ((first | refine qA rfl ?_|refine qB ?_|refine qC rfl ?_|refine qD ?_|refine qE ?_|refine qF ?_|refine qG ?_|refine qH ?_);try simp (maxSteps:=1000000)(disch:=(first|omega|(simp only [qI,qJ,qK]<;>omega)|exact qL _)) only [go_sem,↓reduceIte,n0,reduceCtorEq,n1,n2,n3,n4,n5,i0,i1,i2,i3,i4,i5,i6,i7,h62,h61,h60,hx6,hxe,g1,g2,g3,cellsAt_five,Int.toNat_natCast])
      generalize (wr (w6.alloc (.cells #[.int .i64 0,.slice none 0 0,.bool false,.slice none 0 0,.slice none 0 0] 26)) w6.heap.size 0 [.int .i64 L[j].n,vS',.bool L[j].null,vL',vU']) = w7 at *
      have hbt7 := hE7.blk_some hbt id
      have hb47 := hE7.blk_some hb46 id
      refine W.drawR (.take 0 (.take 1 (.take 2 (.take 3 (.take 4 (.only 5 (.only 6 (.only 7 (.take 8 (.last 9)))))))))) (ownB v) mixed (by kernel_rfl) ?_
      simp (maxSteps:=1000000)(disch:=(first|omega|(simp only [qI,qJ,qK]<;>omega)|exact qL _ | (refine hnb _ ?_;first | omega | (simp only [World.size_alloc,size_wr,size_drew] <;> omega)))) only [go_sem,↓reduceIte,n0,reduceCtorEq,n1,n2,n3,n4,n5,i0,i1,i2,i3,i4,i5,i6,i7,h1,h9,h10,hbt7,hb47,hb7,cellsAt_five,cellsAt_eight]
      have hE7d : Ext w7 w7.drew := (Upd.refl _ _).drew
      have hK : Keeps (fun b => ok b ∧ b < w.heap.size) w4 w7.drew := fun b hb hk => by
        rw [hE7d.keep b (by have := hE7.size;omega) id,hE7.keep b (by omega) id,hU6.keep b hb (by have := hk.2;omega)]
      have hsubw : FldsV (fun b => ok b ∧ b < w.heap.size) w7.drew vs f.sub := ((hsub.weaken fun b h1 h2 => ⟨h2,h1⟩).keep (hE04.keeps _)).keep hK
      refine (fitted_one hft (.mk f.of f.fr f.to (-1) (-1) f.df f.of f.sub) ver L[j] _ _ w7.drew (FldC.intro hsubw) hok ⟨hof.1,Int.le_trans hof.2 (by decide),Int.le_refl (-1),(by decide : (-1 : Int) ≤ 1000),hB.2.2.2.2.1,hB.2.2.2.2.2.1,hof.1,hof.2⟩ (hc.keep hK) hsmj (by simp only [Fld.kind];omega)).mono ?_
      rintro v8 w8 ⟨⟨c8,rfl,hc8⟩,hE8⟩
      rw [fitted_of _ _ _ _ _ _ _ _ (by omega)] at hc8
      generalize fitOne ft f.of f.sub false ver L[j] = T at *
      obtain ⟨vS8,vL8,vU8,rfl,hn8,hS8,hL8,hU8⟩ := hc8.inv
      have k1 := hS8.flat
      have k2 := SlR.flat hL8
      have k3 := SlR.flat hU8
      have hz8 := hE8.size
      simp only [size_drew] at hz8
      have hM8 : Upd (ownB v) w7.drew w8 := hE8.mono (fun _ h => h.elim)
      have hE68 : Ext w6 w8 := (hE7.trans hE7d).trans hE8
      have hE9 : Ext w8 (w8.alloc (.cells #[.int .i64 T.n,vS8,.bool T.null,vL8,vU8] 26)) := Upd.alloc (Upd.refl _ _) _
      have hM9 : Upd (ownB v) w7.drew (w8.alloc (.cells #[.int .i64 T.n,vS8,.bool T.null,vL8,vU8] 26)) := hM8.alloc _
      refine ⟨hM8,?_⟩
      simp (maxSteps:=1000000)(disch:=(first|omega|(simp only [qI,qJ,qK]<;>omega)|exact qL _)) only [go_sem,↓reduceIte,n0,reduceCtorEq,n1,n2,n3,n4,n5,i0,i1,i2,i3,i4,i5,i6,i7,k1,k2,k3]
      refine ⟨hM9,?_⟩
      have hg9 := (hg.ext hE68).ext hE9
      have hx9 : TreeC (fun b => (okN ok w.heap.size b ∧ b ≠ w.heap.size + 2) ∧ b ≠ w3.heap.size ∧ ¬ ownB v b) (w8.alloc (.cells #[.int .i64 T.n,vS8,.bool T.null,vL8,vU8] 26)) T [.int .i64 T.n,vS8,.bool T.null,vL8,vU8] :=
        (hc8.keep (hE9.keeps _)).weaken fun b _ hk => by
          rcases hk with ⟨h1,h2⟩ | h2
          · exact ⟨⟨.inl h1,by omega⟩,by omega,fun h => by have := hg.above h;omega⟩
          · simp only [size_drew] at h2
            exact ⟨⟨.inr (by omega),by omega⟩,by omega,fun h => by have := hg.below h;omega⟩
      have hlen9 : ((L.take j).map fun x => fitOne ft f.of f.sub false ver x).length = j := by simp;omega
      obtain ⟨css,hown,hall⟩ := hg9.ex
      have hcl9 := hall.1
      refine wp_append ap_23_23 (m := 1) (news := [.int .i64 T.n,vS8,.bool T.null,vL8,vU8]) (n := css.length) (cs := css.flatten) (v := v) ?_ rfl hown.1 (all2_flat_tree hall) (Src.blk (fr := (0,0)) (T := 26) (blk_alloc_new rfl) rfl (flat_tree hx9).1) ?_ ?_ ?_
      · simp (maxSteps:=1000000)(disch:=(first|omega|(simp only [qI,qJ,qK]<;>omega)|exact qL _)) only [go_sem,↓reduceIte,n0,reduceCtorEq,n1,n2,n3,n4,n5,i0,i1,i2,i3,i4,i5,i6,i7]
      · simp only [World.size_alloc];omega
      · omega
      intro v' w10 ho hu hfr
      have hg10 := GrowT.snoc hown hall hx9 hu hfr ho
      have hz10 := hu.size
      simp only [World.size_alloc] at hz10
      obtain ⟨va,vc,hv',_⟩ := ho.shape
      subst hv'
      have hbt10 := (hM9.trans hu).blk_some (hE7d.blk_some hbt7 id) (hnb _ (by omega))
      have htb : ¬ ownB (.slice va (css.length + 1) vc) w3.heap.size := fun h => by
        rcases hfr _ h with h | h
        · exact hnb _ (.inl (by omega)) h
        · simp only [World.size_alloc] at h;omega
      simp (maxSteps:=1000000)(disch:=(first|omega|(simp only [qI,qJ,qK]<;>omega)|exact qL _)) only [go_sem,↓reduceIte,n0,reduceCtorEq,n1,n2,n3,n4,n5,i0,i1,i2,i3,i4,i5,i6,i7]
      refine ⟨hM9.trans hu,?_⟩
      simp (maxSteps:=1000000)(disch:=(first|omega|(simp only [qI,qJ,qK]<;>omega)|exact qL _)) only [go_sem,↓reduceIte,n0,reduceCtorEq,n1,n2,n3,n4,n5,i0,i1,i2,i3,i4,i5,i6,i7,h9,hbt10]
      repeat ((first | refine qA rfl ?_|refine qB ?_|refine qC rfl ?_|refine qD ?_|refine qE ?_|refine qF ?_|refine qG ?_|refine qH ?_);try simp (maxSteps:=1000000)(disch:=(first|omega|(simp only [qI,qJ,qK]<;>omega)|exact qL _)) only [go_sem,↓reduceIte,n0,reduceCtorEq,n1,n2,n3,n4,n5,i0,i1,i2,i3,i4,i5,i6,i7,h62])
      refine ⟨⟨j + 1,.slice va (css.length + 1) vc,by omega,rfl,h61,h60,h1,h9,h10,h6,?_,?_,?_⟩,?_⟩
      · simp (maxSteps:=1000000)(disch:=(first|omega|(simp only [qI,qJ,qK]<;>omega)|exact qL _)) only [go_sem,↓reduceIte,n0,reduceCtorEq,n1,n2,n3,n4,n5,i0,i1,i2,i3,i4,i5,i6,i7,hbt10]
      · rw [hcat];exact hg10.upd ((Upd.refl _ _).wr _ _ (.inr rfl)) htb
      · refine Upd.wr ?_ _ _ (.inr rfl)
        exact hU6.more (((hE68.trans hE9).mono fun _ h => h.elim).trans hu) fun b hb h => by have := hg.above h;omega
      · simp only [RowKit.intOf];omega
    · have hjl : j = L.length := by omega
      subst hjl
      rw [List.take_length] at hg
      obtain ⟨va,vc,hv',_⟩ := hg.shape
      subst hv'
      have hb26 := hU6.blk_some hb24 (by omega)
      repeat ((first | refine qA rfl ?_|refine qB ?_|refine qC rfl ?_|refine qD ?_|refine qE ?_|refine qF ?_|refine qG ?_|refine qH ?_);try simp (maxSteps:=1000000)(disch:=(first|omega|(simp only [qI,qJ,qK]<;>omega)|exact qL _)) only [go_sem,↓reduceIte,n0,reduceCtorEq,n1,n2,n3,n4,n5,i0,i1,i2,i3,i4,i5,i6,i7,h62,h61,h9,h6,hbt,hb26,cellsAt_five])
      have hEf : Ext w6 w6 := Upd.refl _ _
      have hE06 : Ext w w6 := hE04.more hU6 fun b hb h => by omega
      refine ⟨⟨_,rfl,?_⟩,hE06.wr _ _ (.inl (by omega))⟩
      have ht6 := hg.trees (ok' := fun b => okN ok w.heap.size b ∧ b ≠ w.heap.size + 2) (fun _ _ h => h) (fun b hb => ⟨.inr (by omega),by omega⟩)
      have hU7 : Upd (fun b => b = w.heap.size + 2) w6 (wr w6 (w.heap.size + 2) 0 [.int .i64 0,.slice none 0 0,.bool false,.slice va (L.map fun x => fitOne ft f.of f.sub false ver x).length vc,.slice none 0 0]) := (Upd.refl _ _).wr _ _ (.inr rfl)
      exact TreeC.intro rfl (bytes_nil _ _) ((ht6.keep (hU7.keeps fun b _ hk e => hk.2 e)).weaken fun b _ hk => hk.1) (tags_nil _ _)

theorem fitted_k11c {d : Nat} {ft : List Fld → Int → Tree → Tree} (hft : FitOk d ft) {ok : Blocks} (f : Fld) (ver : Int) (t : Tree) (cf ct : List Value) (w : World) (hf : FldC ok w f cf) (hok : okF d f.sub = true) (hB : okB f) (ht : TreeC ok w t ct) (hsm : Small 4611686018427387903 t) (hk : f.kind = 11) (hnul : nullS f ver t = false) (htg : 0 ≤ f.tag) (hl0 : t.l.length = 0) :
    Fn Tryz.prog 21 #[.agg cf.toArray,.int .i64 ver,.agg ct.toArray] w fun r w' => TreeR ok w w' r (fittedS ft f ver t) ∧ Ext w w' := by
  obtain ⟨vs,rfl,hsub⟩ := hf.inv
  obtain ⟨vS,vL,vU,rfl,hn,hS,hL,hU⟩ := ht.inv
  have hl1 := hsm.s
  have hl2 := hsm.l
  have f0 := SlR.flat hsub
  have f1 := hS.flat
  have f2 := SlR.flat hL
  have f3 := SlR.flat hU
  have hE : Ext w (((w.alloc (.cells #[.int .i64 f.kind,.int .i64 f.fr,.int .i64 f.to,.int .i64 f.null,.int .i64 f.tag,.int .i64 f.df,.int .i64 f.of,vs] 50)).alloc (.cells #[.int .i64 t.n,vS,.bool t.null,vL,vU] 26)).alloc (.cells #[.int .i64 0,.slice none 0 0,.bool false,.slice none 0 0,.slice none 0 0] 26)) := Upd.alloc (Upd.alloc (Upd.alloc (Upd.refl _ _) _) _) _
  refine fn_of_W Tryz.func21 rfl Tryz.results21 Tryz.ntmps21 rfl ?_
  repeat ((first | refine qA rfl ?_|refine qB ?_|refine qC rfl ?_|refine qD ?_|refine qE ?_|refine qF ?_|refine qG ?_|refine qH ?_);try simp (maxSteps:=1000000)(disch:=(first|omega|(simp only [qI,qJ,qK]<;>omega)|exact qL _)) only [go_sem,↓reduceIte,n0,reduceCtorEq,n1,n2,n3,n4,n5,i0,i1,i2,i3,i4,i5,i6,i7,f0,f1,f2,f3,cellsAt_five,cellsAt_eight])
  have hb0 : blk (((w.alloc (.cells #[.int .i64 f.kind,.int .i64 f.fr,.int .i64 f.to,.int .i64 f.null,.int .i64 f.tag,.int .i64 f.df,.int .i64 f.of,vs] 50)).alloc (.cells #[.int .i64 t.n,vS,.bool t.null,vL,vU] 26)).alloc (.cells #[.int .i64 0,.slice none 0 0,.bool false,.slice none 0 0,.slice none 0 0] 26)) w.heap.size = some (#[.int .i64 f.kind,.int .i64 f.fr,.int .i64 f.to,.int .i64 f.null,.int .i64 f.tag,.int .i64 f.df,.int .i64 f.of,vs],50,(0,0)) := by
    rw [blk_alloc_old (by simp only [World.size_alloc];omega),blk_alloc_old (by simp only [World.size_alloc];omega),blk_alloc_new rfl]
  have hb1 : blk (((w.alloc (.cells #[.int .i64 f.kind,.int .i64 f.fr,.int .i64 f.to,.int .i64 f.null,.int .i64 f.tag,.int .i64 f.df,.int .i64 f.of,vs] 50)).alloc (.cells #[.int .i64 t.n,vS,.bool t.null,vL,vU] 26)).alloc (.cells #[.int .i64 0,.slice none 0 0,.bool false,.slice none 0 0,.slice none 0 0] 26)) (w.heap.size + 1) = some (#[.int .i64 t.n,vS,.bool t.null,vL,vU],26,(0,0)) := by
    rw [blk_alloc_old (by simp only [World.size_alloc];omega),blk_alloc_new (by simp only [World.size_alloc])]
  have hb2 : blk (((w.alloc (.cells #[.int .i64 f.kind,.int .i64 f.fr,.int .i64 f.to,.int .i64 f.null,.int .i64 f.tag,.int .i64 f.df,.int .i64 f.of,vs] 50)).alloc (.cells #[.int .i64 t.n,vS,.bool t.null,vL,vU] 26)).alloc (.cells #[.int .i64 0,.slice none 0 0,.bool false,.slice none 0 0,.slice none 0 0] 26)) (w.heap.size + 2) = some (#[.int .i64 0,.slice none 0 0,.bool false,.slice none 0 0,.slice none 0 0],26,(0,0)) := by
    rw [blk_alloc_new (by simp only [World.size_alloc])]
  have hz2 : (((w.alloc (.cells #[.int .i64 f.kind,.int .i64 f.fr,.int .i64 f.to,.int .i64 f.null,.int .i64 f.tag,.int .i64 f.df,.int .i64 f.of,vs] 50)).alloc (.cells #[.int .i64 t.n,vS,.bool t.null,vL,vU] 26)).alloc (.cells #[.int .i64 0,.slice none 0 0,.bool false,.slice none 0 0,.slice none 0 0] 26)).heap.size = w.heap.size + 3 := by simp only [World.size_alloc]
  generalize (((w.alloc (.cells #[.int .i64 f.kind,.int .i64 f.fr,.int .i64 f.to,.int .i64 f.null,.int .i64 f.tag,.int .i64 f.df,.int .i64 f.of,vs] 50)).alloc (.cells #[.int .i64 t.n,vS,.bool t.null,vL,vU] 26)).alloc (.cells #[.int .i64 0,.slice none 0 0,.bool false,.slice none 0 0,.slice none 0 0] 26)) = w2 at *
  refine (Null_fn f ver t _ _ w2 (FldC.of (hsub.keep (hE.keeps _))) (ht.keep (hE.keeps _))).mono ?_
  rintro v3 w3 ⟨rfl,hE3⟩
  have hE03 : Ext w w3 := hE.trans hE3
  have hz3 := hE3.size
  have hb03 := hE3.blk_some hb0 id
  have hb13 := hE3.blk_some hb1 id
  have hb23 := hE3.blk_some hb2 id
  obtain ⟨bL,cL,rfl,hcL⟩ := SlR.shape hL
  repeat ((first | refine qA rfl ?_|refine qB ?_|refine qC rfl ?_|refine qD ?_|refine qE ?_|refine qF ?_|refine qG ?_|refine qH ?_);try simp (maxSteps:=1000000)(disch:=(first|omega|(simp only [qI,qJ,qK]<;>omega)|exact qL _)) only [go_sem,↓reduceIte,n0,reduceCtorEq,n1,n2,n3,n4,n5,i0,i1,i2,i3,i4,i5,i6,i7,hb03,hb13,hnul,f0,cellsAt_eight])
  have hE4 : Ext w3 (wr (wr (wr (wr ((wr (w3.alloc (.cells #[.int .i64 0,.slice none 0 0,.bool false,.slice none 0 0,.slice none 0 0] 26)) w3.heap.size 0 [.int .i64 0,.slice none 0 0,.bool true,.slice none 0 0,.slice none 0 0]).alloc (.cells #[.int .i64 0,.int .i64 0,.int .i64 0,.int .i64 0,.int .i64 0,.int .i64 0,.int .i64 0,.slice none 0 0] 50)) (w3.heap.size + 1) 0 [.int .i64 f.kind,.int .i64 f.fr,.int .i64 f.to,.int .i64 f.null,.int .i64 f.tag,.int .i64 f.df,.int .i64 f.of,vs]) (w3.heap.size + 1) 0 [.int .i64 f.of]) (w3.heap.size + 1) 3 [.int .i64 (-1)]) (w3.heap.size + 1) 4 [.int .i64 (-1)]) := ((((((Upd.refl _ _).alloc _).wr _ _ (.inl (Nat.le_refl _))).alloc _).wr _ _ (.inl (by omega))).wr _ _ (.inl (by omega))).wr _ _ (.inl (by omega)) |>.wr _ _ (.inl (by omega))
  have hb34 : blk (wr (wr (wr (wr ((wr (w3.alloc (.cells #[.int .i64 0,.slice none 0 0,.bool false,.slice none 0 0,.slice none 0 0] 26)) w3.heap.size 0 [.int .i64 0,.slice none 0 0,.bool true,.slice none 0 0,.slice none 0 0]).alloc (.cells #[.int .i64 0,.int .i64 0,.int .i64 0,.int .i64 0,.int .i64 0,.int .i64 0,.int .i64 0,.slice none 0 0] 50)) (w3.heap.size + 1) 0 [.int .i64 f.kind,.int .i64 f.fr,.int .i64 f.to,.int .i64 f.null,.int .i64 f.tag,.int .i64 f.df,.int .i64 f.of,vs]) (w3.heap.size + 1) 0 [.int .i64 f.of]) (w3.heap.size + 1) 3 [.int .i64 (-1)]) (w3.heap.size + 1) 4 [.int .i64 (-1)]) w3.heap.size = some (#[.int .i64 0,.slice none 0 0,.bool true,.slice none 0 0,.slice none 0 0],26,(0,0)) := by simp (maxSteps:=1000000)(disch:=(first|omega|(simp only [qI,qJ,qK]<;>omega)|exact qL _)) only [go_sem,↓reduceIte,n0,reduceCtorEq,n1,n2,n3,n4,n5,i0,i1,i2,i3,i4,i5,i6,i7]
  have hb44 : blk (wr (wr (wr (wr ((wr (w3.alloc (.cells #[.int .i64 0,.slice none 0 0,.bool false,.slice none 0 0,.slice none 0 0] 26)) w3.heap.size 0 [.int .i64 0,.slice none 0 0,.bool true,.slice none 0 0,.slice none 0 0]).alloc (.cells #[.int .i64 0,.int .i64 0,.int .i64 0,.int .i64 0,.int .i64 0,.int .i64 0,.int .i64 0,.slice none 0 0] 50)) (w3.heap.size + 1) 0 [.int .i64 f.kind,.int .i64 f.fr,.int .i64 f.to,.int .i64 f.null,.int .i64 f.tag,.int .i64 f.df,.int .i64 f.of,vs]) (w3.heap.size + 1) 0 [.int .i64 f.of]) (w3.heap.size + 1) 3 [.int .i64 (-1)]) (w3.heap.size + 1) 4 [.int .i64 (-1)]) (w3.heap.size + 1) = some (#[.int .i64 f.of,.int .i64 f.fr,.int .i64 f.to,.int .i64 (-1),.int .i64 (-1),.int .i64 f.df,.int .i64 f.of,vs],50,(0,0)) := by simp (maxSteps:=1000000)(disch:=(first|omega|(simp only [qI,qJ,qK]<;>omega)|exact qL _)) only [go_sem,↓reduceIte,n0,reduceCtorEq,n1,n2,n3,n4,n5,i0,i1,i2,i3,i4,i5,i6,i7]
  have hz4 : (wr (wr (wr (wr ((wr (w3.alloc (.cells #[.int .i64 0,.slice none 0 0,.bool false,.slice none 0 0,.slice none 0 0] 26)) w3.heap.size 0 [.int .i64 0,.slice none 0 0,.bool true,.slice none 0 0,.slice none 0 0]).alloc (.cells #[.int .i64 0,.int .i64 0,.int .i64 0,.int .i64 0,.int .i64 0,.int .i64 0,.int .i64 0,.slice none 0 0] 50)) (w3.heap.size + 1) 0 [.int .i64 f.kind,.int .i64 f.fr,.int .i64 f.to,.int .i64 f.null,.int .i64 f.tag,.int .i64 f.df,.int .i64 f.of,vs]) (w3.heap.size + 1) 0 [.int .i64 f.of]) (w3.heap.size + 1) 3 [.int .i64 (-1)]) (w3.heap.size + 1) 4 [.int .i64 (-1)]).heap.size = w3.heap.size + 2 := by simp only [size_wr,World.size_alloc]
  generalize (wr (wr (wr (wr ((wr (w3.alloc (.cells #[.int .i64 0,.slice none 0 0,.bool false,.slice none 0 0,.slice none 0 0] 26)) w3.heap.size 0 [.int .i64 0,.slice none 0 0,.bool true,.slice none 0 0,.slice none 0 0]).alloc (.cells #[.int .i64 0,.int .i64 0,.int .i64 0,.int .i64 0,.int .i64 0,.int .i64 0,.int .i64 0,.slice none 0 0] 50)) (w3.heap.size + 1) 0 [.int .i64 f.kind,.int .i64 f.fr,.int .i64 f.to,.int .i64 f.null,.int .i64 f.tag,.int .i64 f.df,.int .i64 f.of,vs]) (w3.heap.size + 1) 0 [.int .i64 f.of]) (w3.heap.size + 1) 3 [.int .i64 (-1)]) (w3.heap.size + 1) 4 [.int .i64 (-1)]) = w4 at *
  have hE04 : Ext w w4 := hE03.trans hE4
  have hb24 := hE4.blk_some hb23 id
  refine (things_fn (ok := fun b => ok b ∧ b < w.heap.size) t.l _ w4 ((hL.weaken fun b h1 h2 => ⟨h2,h1⟩).keep (hE04.keeps _))).mono ?_
  rintro v5 w5 ⟨hL5,hw5⟩
  obtain rfl := hw5.symm
  obtain ⟨bl,cl,rfl,hcl⟩ := SlR.shape hL5
  simp (maxSteps:=1000000)(disch:=(first|omega|(simp only [qI,qJ,qK]<;>omega)|exact qL _)) only [go_sem,↓reduceIte,n0,reduceCtorEq,n1,n2,n3,n4,n5,i0,i1,i2,i3,i4,i5,i6,i7]
  repeat ((first | refine qA rfl ?_|refine qB ?_|refine qC rfl ?_|refine qD ?_|refine qE ?_|refine qF ?_|refine qG ?_|refine qH ?_);try simp (maxSteps:=1000000)(disch:=(first|omega|(simp only [qI,qJ,qK]<;>omega)|exact qL _)) only [go_sem,↓reduceIte,n0,reduceCtorEq,n1,n2,n3,n4,n5,i0,i1,i2,i3,i4,i5,i6,i7])
  have hlt : (thingsS t.l).length ≤ 32767 := by simp only [thingsS,List.length_take];omega
  have hsml : ∀ x ∈ thingsS t.l,Small 4611686018427387903 x := fun x hx => by
    obtain ⟨i,hi,rfl⟩ := List.getElem_of_mem (List.mem_of_mem_take hx)
    exact hsm.e i hi
  have e : fittedS ft f ver t = .mk 0 [] true ((thingsS t.l).map fun x => fitOne ft f.of f.sub false ver x) [] := by simp [fittedS,hk,hnul,htg,hl0]
  rw [e]
  generalize thingsS t.l = L at *
  have hof : 0 ≤ f.of ∧ f.of ≤ 10 := ⟨hB.2.2.2.2.2.2.1,hB.2.2.2.2.2.2.2⟩
  refine W.loop (fun ρ w' => ∃ (j : Nat) (v : Value),j ≤ L.length ∧ ρ 62 = .int .i64 j ∧ ρ 61 = .int .i64 L.length ∧ ρ 60 = .slice bl L.length cl ∧ ρ 1 = .int .i64 ver ∧ ρ 9 = .pointer (some ⟨w3.heap.size,0,none⟩) ∧ ρ 10 = .pointer (some ⟨w3.heap.size + 1,0,none⟩) ∧ ρ 6 = .pointer (some ⟨w.heap.size + 2,0,none⟩) ∧
      blk w' w3.heap.size = some (#[.int .i64 0,.slice none 0 0,.bool true,v,.slice none 0 0],26,(0,0)) ∧
      GrowT (fun b => okN ok w.heap.size b ∧ b ≠ w.heap.size + 2) w4.heap.size w3.heap.size w' 26 v ((L.take j).map fun x => fitOne ft f.of f.sub false ver x) ∧ Upd (fun b => b = w3.heap.size) w4 w')
    (fun ρ _ => L.length - (RowKit.intOf (ρ 62)).toNat) ?_ ?_
  · refine ⟨0,_,Nat.zero_le _,?_,?_,?_,?_,?_,?_,?_,hb34,GrowT.nil _ _ _ _ _,Upd.refl _ _⟩ <;> simp (maxSteps:=1000000)(disch:=(first|omega|(simp only [qI,qJ,qK]<;>omega)|exact qL _)) only [go_sem,↓reduceIte,n0,reduceCtorEq,n1,n2,n3,n4,n5,i0,i1,i2,i3,i4,i5,i6,i7]
    all_goals rfl
  · rintro ρ w6 ⟨j,v,hj,h62,h61,h60,h1,h9,h10,h6,hbt,hg,hU6⟩
    have hz6 := hU6.size
    by_cases hlt2 : j < L.length
    · obtain ⟨_,b,o,x,vS',vL',vU',hb,hokb,hx,hblt,hxs,hxe,g1,g2,g3,hc⟩ := TreesV.get hL5 hlt2
      subst hb
      have hx6 : blk w6 b = some x := hU6.blk_some hx (by have := hokb.2;omega)
      have hb46 := hU6.blk_some hb44 (by omega)
      have hcat : ((L.take (j + 1)).map fun x => fitOne ft f.of f.sub false ver x) = ((L.take j).map fun x => fitOne ft f.of f.sub false ver x) ++ [fitOne ft f.of f.sub false ver L[j]] := by
        rw [List.take_succ_eq_append_getElem hlt2]
        simp only [List.map_append,List.map_cons,List.map_nil]
      have hnb : ∀ b,b < w4.heap.size ∨ b = w6.heap.size → ¬ ownB v b := fun b hb h => by
        have := hg.above h
        have := hg.below h
        omega
      have hE7 : Ext w6 (wr (w6.alloc (.cells #[.int .i64 0,.slice none 0 0,.bool false,.slice none 0 0,.slice none 0 0] 26)) w6.heap.size 0 [.int .i64 L[j].n,vS',.bool L[j].null,vL',vU']) := (Upd.alloc (Upd.refl _ _) _).wr _ _ (.inl (Nat.le_refl _))
      have hb7 : blk (wr (w6.alloc (.cells #[.int .i64 0,.slice none 0 0,.bool false,.slice none 0 0,.slice none 0 0] 26)) w6.heap.size 0 [.int .i64 L[j].n,vS',.bool L[j].null,vL',vU']) w6.heap.size = some (#[.int .i64 L[j].n,vS',.bool L[j].null,vL',vU'],26,(0,0)) := by simp (maxSteps:=1000000)(disch:=(first|omega|(simp only [qI,qJ,qK]<;>omega)|exact qL _)) only [go_sem,↓reduceIte,n0,reduceCtorEq,n1,n2,n3,n4,n5,i0,i1,i2,i3,i4,i5,i6,i7]
      have hz7 : (wr (w6.alloc (.cells #[.int .i64 0,.slice none 0 0,.bool false,.slice none 0 0,.slice none 0 0] 26)) w6.heap.size 0 [.int .i64 L[j].n,vS',.bool L[j].null,vL',vU']).heap.size = w6.heap.size + 1 := by simp only [size_wr,World.size_alloc]
      have hsmj := hsml L[j] (List.getElem_mem hlt2)
      repeat ((first | refine qA rfl ?_|refine qB ?_|refine qC rfl ?_|refine qD ?_|refine qE ?_|refine qF ?_|refine qG ?_|refine qH ?_);try simp (maxSteps:=1000000)(disch:=(first|omega|(simp only [qI,qJ,qK]<;>omega)|exact qL _)) only [go_sem,↓reduceIte,n0,reduceCtorEq,n1,n2,n3,n4,n5,i0,i1,i2,i3,i4,i5,i6,i7,h62,h61,h60,hx6,hxe,g1,g2,g3,cellsAt_five,Int.toNat_natCast])
      generalize (wr (w6.alloc (.cells #[.int .i64 0,.slice none 0 0,.bool false,.slice none 0 0,.slice none 0 0] 26)) w6.heap.size 0 [.int .i64 L[j].n,vS',.bool L[j].null,vL',vU']) = w7 at *
      have hbt7 := hE7.blk_some hbt id
      have hb47 := hE7.blk_some hb46 id
      refine W.drawR (.take 0 (.take 1 (.take 2 (.take 3 (.take 4 (.only 5 (.only 6 (.only 7 (.take 8 (.last 9)))))))))) (ownB v) mixed (by kernel_rfl) ?_
      simp (maxSteps:=1000000)(disch:=(first|omega|(simp only [qI,qJ,qK]<;>omega)|exact qL _ | (refine hnb _ ?_;first | omega | (simp only [World.size_alloc,size_wr,size_drew] <;> omega)))) only [go_sem,↓reduceIte,n0,reduceCtorEq,n1,n2,n3,n4,n5,i0,i1,i2,i3,i4,i5,i6,i7,h1,h9,h10,hbt7,hb47,hb7,cellsAt_five,cellsAt_eight]
      have hE7d : Ext w7 w7.drew := (Upd.refl _ _).drew
      have hK : Keeps (fun b => ok b ∧ b < w.heap.size) w4 w7.drew := fun b hb hk => by
        rw [hE7d.keep b (by have := hE7.size;omega) id,hE7.keep b (by omega) id,hU6.keep b hb (by have := hk.2;omega)]
      have hsubw : FldsV (fun b => ok b ∧ b < w.heap.size) w7.drew vs f.sub := ((hsub.weaken fun b h1 h2 => ⟨h2,h1⟩).keep (hE04.keeps _)).keep hK
      refine (fitted_one hft (.mk f.of f.fr f.to (-1) (-1) f.df f.of f.sub) ver L[j] _ _ w7.drew (FldC.intro hsubw) hok ⟨hof.1,Int.le_trans hof.2 (by decide),Int.le_refl (-1),(by decide : (-1 : Int) ≤ 1000),hB.2.2.2.2.1,hB.2.2.2.2.2.1,hof.1,hof.2⟩ (hc.keep hK) hsmj (by simp only [Fld.kind];omega)).mono ?_
      rintro v8 w8 ⟨⟨c8,rfl,hc8⟩,hE8⟩
      rw [fitted_of _ _ _ _ _ _ _ _ (by omega)] at hc8
      generalize fitOne ft f.of f.sub false ver L[j] = T at *
      obtain ⟨vS8,vL8,vU8,rfl,hn8,hS8,hL8,hU8⟩ := hc8.inv
      have k1 := hS8.flat
      have k2 := SlR.flat hL8
      have k3 := SlR.flat hU8
      have hz8 := hE8.size
      simp only [size_drew] at hz8
      have hM8 : Upd (ownB v) w7.drew w8 := hE8.mono (fun _ h => h.elim)
      have hE68 : Ext w6 w8 := (hE7.trans hE7d).trans hE8
      have hE9 : Ext w8 (w8.alloc (.cells #[.int .i64 T.n,vS8,.bool T.null,vL8,vU8] 26)) := Upd.alloc (Upd.refl _ _) _
      have hM9 : Upd (ownB v) w7.drew (w8.alloc (.cells #[.int .i64 T.n,vS8,.bool T.null,vL8,vU8] 26)) := hM8.alloc _
      refine ⟨hM8,?_⟩
      simp (maxSteps:=1000000)(disch:=(first|omega|(simp only [qI,qJ,qK]<;>omega)|exact qL _)) only [go_sem,↓reduceIte,n0,reduceCtorEq,n1,n2,n3,n4,n5,i0,i1,i2,i3,i4,i5,i6,i7,k1,k2,k3]
      refine ⟨hM9,?_⟩
      have hg9 := (hg.ext hE68).ext hE9
      have hx9 : TreeC (fun b => (okN ok w.heap.size b ∧ b ≠ w.heap.size + 2) ∧ b ≠ w3.heap.size ∧ ¬ ownB v b) (w8.alloc (.cells #[.int .i64 T.n,vS8,.bool T.null,vL8,vU8] 26)) T [.int .i64 T.n,vS8,.bool T.null,vL8,vU8] :=
        (hc8.keep (hE9.keeps _)).weaken fun b _ hk => by
          rcases hk with ⟨h1,h2⟩ | h2
          · exact ⟨⟨.inl h1,by omega⟩,by omega,fun h => by have := hg.above h;omega⟩
          · simp only [size_drew] at h2
            exact ⟨⟨.inr (by omega),by omega⟩,by omega,fun h => by have := hg.below h;omega⟩
      have hlen9 : ((L.take j).map fun x => fitOne ft f.of f.sub false ver x).length = j := by simp;omega
      obtain ⟨css,hown,hall⟩ := hg9.ex
      have hcl9 := hall.1
      refine wp_append ap_23_23 (m := 1) (news := [.int .i64 T.n,vS8,.bool T.null,vL8,vU8]) (n := css.length) (cs := css.flatten) (v := v) ?_ rfl hown.1 (all2_flat_tree hall) (Src.blk (fr := (0,0)) (T := 26) (blk_alloc_new rfl) rfl (flat_tree hx9).1) ?_ ?_ ?_
      · simp (maxSteps:=1000000)(disch:=(first|omega|(simp only [qI,qJ,qK]<;>omega)|exact qL _)) only [go_sem,↓reduceIte,n0,reduceCtorEq,n1,n2,n3,n4,n5,i0,i1,i2,i3,i4,i5,i6,i7]
      · simp only [World.size_alloc];omega
      · omega
      intro v' w10 ho hu hfr
      have hg10 := GrowT.snoc hown hall hx9 hu hfr ho
      have hz10 := hu.size
      simp only [World.size_alloc] at hz10
      obtain ⟨va,vc,hv',_⟩ := ho.shape
      subst hv'
      have hbt10 := (hM9.trans hu).blk_some (hE7d.blk_some hbt7 id) (hnb _ (by omega))
      have htb : ¬ ownB (.slice va (css.length + 1) vc) w3.heap.size := fun h => by
        rcases hfr _ h with h | h
        · exact hnb _ (.inl (by omega)) h
        · simp only [World.size_alloc] at h;omega
      simp (maxSteps:=1000000)(disch:=(first|omega|(simp only [qI,qJ,qK]<;>omega)|exact qL _)) only [go_sem,↓reduceIte,n0,reduceCtorEq,n1,n2,n3,n4,n5,i0,i1,i2,i3,i4,i5,i6,i7]
      refine ⟨hM9.trans hu,?_⟩
      simp (maxSteps:=1000000)(disch:=(first|omega|(simp only [qI,qJ,qK]<;>omega)|exact qL _)) only [go_sem,↓reduceIte,n0,reduceCtorEq,n1,n2,n3,n4,n5,i0,i1,i2,i3,i4,i5,i6,i7,h9,hbt10]
      repeat ((first | refine qA rfl ?_|refine qB ?_|refine qC rfl ?_|refine qD ?_|refine qE ?_|refine qF ?_|refine qG ?_|refine qH ?_);try simp (maxSteps:=1000000)(disch:=(first|omega|(simp only [qI,qJ,qK]<;>omega)|exact qL _)) only [go_sem,↓reduceIte,n0,reduceCtorEq,n1,n2,n3,n4,n5,i0,i1,i2,i3,i4,i5,i6,i7,h62])
      refine ⟨⟨j + 1,.slice va (css.length + 1) vc,by omega,rfl,h61,h60,h1,h9,h10,h6,?_,?_,?_⟩,?_⟩
      · simp (maxSteps:=1000000)(disch:=(first|omega|(simp only [qI,qJ,qK]<;>omega)|exact qL _)) only [go_sem,↓reduceIte,n0,reduceCtorEq,n1,n2,n3,n4,n5,i0,i1,i2,i3,i4,i5,i6,i7,hbt10]
      · rw [hcat];exact hg10.upd ((Upd.refl _ _).wr _ _ (.inr rfl)) htb
      · refine Upd.wr ?_ _ _ (.inr rfl)
        exact hU6.more (((hE68.trans hE9).mono fun _ h => h.elim).trans hu) fun b hb h => by have := hg.above h;omega
      · simp only [RowKit.intOf];omega
    · have hjl : j = L.length := by omega
      subst hjl
      rw [List.take_length] at hg
      obtain ⟨va,vc,hv',_⟩ := hg.shape
      subst hv'
      have hb26 := hU6.blk_some hb24 (by omega)
      repeat ((first | refine qA rfl ?_|refine qB ?_|refine qC rfl ?_|refine qD ?_|refine qE ?_|refine qF ?_|refine qG ?_|refine qH ?_);try simp (maxSteps:=1000000)(disch:=(first|omega|(simp only [qI,qJ,qK]<;>omega)|exact qL _)) only [go_sem,↓reduceIte,n0,reduceCtorEq,n1,n2,n3,n4,n5,i0,i1,i2,i3,i4,i5,i6,i7,h62,h61,h9,h6,hbt,hb26,cellsAt_five])
      have hEf : Ext w6 w6 := Upd.refl _ _
      have hE06 : Ext w w6 := hE04.more hU6 fun b hb h => by omega
      refine ⟨⟨_,rfl,?_⟩,hE06.wr _ _ (.inl (by omega))⟩
      have ht6 := hg.trees (ok' := fun b => okN ok w.heap.size b ∧ b ≠ w.heap.size + 2) (fun _ _ h => h) (fun b hb => ⟨.inr (by omega),by omega⟩)
      have hU7 : Upd (fun b => b = w.heap.size + 2) w6 (wr w6 (w.heap.size + 2) 0 [.int .i64 0,.slice none 0 0,.bool true,.slice va (L.map fun x => fitOne ft f.of f.sub false ver x).length vc,.slice none 0 0]) := (Upd.refl _ _).wr _ _ (.inr rfl)
      exact TreeC.intro rfl (bytes_nil _ _) ((ht6.keep (hU7.keeps fun b _ hk e => hk.2 e)).weaken fun b _ hk => hk.1) (tags_nil _ _)

theorem fitted_k11d {d : Nat} {ft : List Fld → Int → Tree → Tree} (hft : FitOk d ft) {ok : Blocks} (f : Fld) (ver : Int) (t : Tree) (cf ct : List Value) (w : World) (hf : FldC ok w f cf) (hok : okF d f.sub = true) (hB : okB f) (ht : TreeC ok w t ct) (hsm : Small 4611686018427387903 t) (hk : f.kind = 11) (hnul : nullS f ver t = false) (htg : 0 ≤ f.tag) (hl0 : t.l.length ≠ 0) :
    Fn Tryz.prog 21 #[.agg cf.toArray,.int .i64 ver,.agg ct.toArray] w fun r w' => TreeR ok w w' r (fittedS ft f ver t) ∧ Ext w w' := by
  obtain ⟨vs,rfl,hsub⟩ := hf.inv
  obtain ⟨vS,vL,vU,rfl,hn,hS,hL,hU⟩ := ht.inv
  have hl1 := hsm.s
  have hl2 := hsm.l
  have f0 := SlR.flat hsub
  have f1 := hS.flat
  have f2 := SlR.flat hL
  have f3 := SlR.flat hU
  have hE : Ext w (((w.alloc (.cells #[.int .i64 f.kind,.int .i64 f.fr,.int .i64 f.to,.int .i64 f.null,.int .i64 f.tag,.int .i64 f.df,.int .i64 f.of,vs] 50)).alloc (.cells #[.int .i64 t.n,vS,.bool t.null,vL,vU] 26)).alloc (.cells #[.int .i64 0,.slice none 0 0,.bool false,.slice none 0 0,.slice none 0 0] 26)) := Upd.alloc (Upd.alloc (Upd.alloc (Upd.refl _ _) _) _) _
  refine fn_of_W Tryz.func21 rfl Tryz.results21 Tryz.ntmps21 rfl ?_
  repeat ((first | refine qA rfl ?_|refine qB ?_|refine qC rfl ?_|refine qD ?_|refine qE ?_|refine qF ?_|refine qG ?_|refine qH ?_);try simp (maxSteps:=1000000)(disch:=(first|omega|(simp only [qI,qJ,qK]<;>omega)|exact qL _)) only [go_sem,↓reduceIte,n0,reduceCtorEq,n1,n2,n3,n4,n5,i0,i1,i2,i3,i4,i5,i6,i7,f0,f1,f2,f3,cellsAt_five,cellsAt_eight])
  have hb0 : blk (((w.alloc (.cells #[.int .i64 f.kind,.int .i64 f.fr,.int .i64 f.to,.int .i64 f.null,.int .i64 f.tag,.int .i64 f.df,.int .i64 f.of,vs] 50)).alloc (.cells #[.int .i64 t.n,vS,.bool t.null,vL,vU] 26)).alloc (.cells #[.int .i64 0,.slice none 0 0,.bool false,.slice none 0 0,.slice none 0 0] 26)) w.heap.size = some (#[.int .i64 f.kind,.int .i64 f.fr,.int .i64 f.to,.int .i64 f.null,.int .i64 f.tag,.int .i64 f.df,.int .i64 f.of,vs],50,(0,0)) := by
    rw [blk_alloc_old (by simp only [World.size_alloc];omega),blk_alloc_old (by simp only [World.size_alloc];omega),blk_alloc_new rfl]
  have hb1 : blk (((w.alloc (.cells #[.int .i64 f.kind,.int .i64 f.fr,.int .i64 f.to,.int .i64 f.null,.int .i64 f.tag,.int .i64 f.df,.int .i64 f.of,vs] 50)).alloc (.cells #[.int .i64 t.n,vS,.bool t.null,vL,vU] 26)).alloc (.cells #[.int .i64 0,.slice none 0 0,.bool false,.slice none 0 0,.slice none 0 0] 26)) (w.heap.size + 1) = some (#[.int .i64 t.n,vS,.bool t.null,vL,vU],26,(0,0)) := by
    rw [blk_alloc_old (by simp only [World.size_alloc];omega),blk_alloc_new (by simp only [World.size_alloc])]
  have hb2 : blk (((w.alloc (.cells #[.int .i64 f.kind,.int .i64 f.fr,.int .i64 f.to,.int .i64 f.null,.int .i64 f.tag,.int .i64 f.df,.int .i64 f.of,vs] 50)).alloc (.cells #[.int .i64 t.n,vS,.bool t.null,vL,vU] 26)).alloc (.cells #[.int .i64 0,.slice none 0 0,.bool false,.slice none 0 0,.slice none 0 0] 26)) (w.heap.size + 2) = some (#[.int .i64 0,.slice none 0 0,.bool false,.slice none 0 0,.slice none 0 0],26,(0,0)) := by
    rw [blk_alloc_new (by simp only [World.size_alloc])]
  have hz2 : (((w.alloc (.cells #[.int .i64 f.kind,.int .i64 f.fr,.int .i64 f.to,.int .i64 f.null,.int .i64 f.tag,.int .i64 f.df,.int .i64 f.of,vs] 50)).alloc (.cells #[.int .i64 t.n,vS,.bool t.null,vL,vU] 26)).alloc (.cells #[.int .i64 0,.slice none 0 0,.bool false,.slice none 0 0,.slice none 0 0] 26)).heap.size = w.heap.size + 3 := by simp only [World.size_alloc]
  generalize (((w.alloc (.cells #[.int .i64 f.kind,.int .i64 f.fr,.int .i64 f.to,.int .i64 f.null,.int .i64 f.tag,.int .i64 f.df,.int .i64 f.of,vs] 50)).alloc (.cells #[.int .i64 t.n,vS,.bool t.null,vL,vU] 26)).alloc (.cells #[.int .i64 0,.slice none 0 0,.bool false,.slice none 0 0,.slice none 0 0] 26)) = w2 at *
  refine (Null_fn f ver t _ _ w2 (FldC.of (hsub.keep (hE.keeps _))) (ht.keep (hE.keeps _))).mono ?_
  rintro v3 w3 ⟨rfl,hE3⟩
  have hE03 : Ext w w3 := hE.trans hE3
  have hz3 := hE3.size
  have hb03 := hE3.blk_some hb0 id
  have hb13 := hE3.blk_some hb1 id
  have hb23 := hE3.blk_some hb2 id
  obtain ⟨bL,cL,rfl,hcL⟩ := SlR.shape hL
  repeat ((first | refine qA rfl ?_|refine qB ?_|refine qC rfl ?_|refine qD ?_|refine qE ?_|refine qF ?_|refine qG ?_|refine qH ?_);try simp (maxSteps:=1000000)(disch:=(first|omega|(simp only [qI,qJ,qK]<;>omega)|exact qL _)) only [go_sem,↓reduceIte,n0,reduceCtorEq,n1,n2,n3,n4,n5,i0,i1,i2,i3,i4,i5,i6,i7,hb03,hb13,hnul,f0,cellsAt_eight])
  have hE4 : Ext w3 (wr (wr (wr (wr ((wr (w3.alloc (.cells #[.int .i64 0,.slice none 0 0,.bool false,.slice none 0 0,.slice none 0 0] 26)) w3.heap.size 0 [.int .i64 0,.slice none 0 0,.bool false,.slice none 0 0,.slice none 0 0]).alloc (.cells #[.int .i64 0,.int .i64 0,.int .i64 0,.int .i64 0,.int .i64 0,.int .i64 0,.int .i64 0,.slice none 0 0] 50)) (w3.heap.size + 1) 0 [.int .i64 f.kind,.int .i64 f.fr,.int .i64 f.to,.int .i64 f.null,.int .i64 f.tag,.int .i64 f.df,.int .i64 f.of,vs]) (w3.heap.size + 1) 0 [.int .i64 f.of]) (w3.heap.size + 1) 3 [.int .i64 (-1)]) (w3.heap.size + 1) 4 [.int .i64 (-1)]) := ((((((Upd.refl _ _).alloc _).wr _ _ (.inl (Nat.le_refl _))).alloc _).wr _ _ (.inl (by omega))).wr _ _ (.inl (by omega))).wr _ _ (.inl (by omega)) |>.wr _ _ (.inl (by omega))
  have hb34 : blk (wr (wr (wr (wr ((wr (w3.alloc (.cells #[.int .i64 0,.slice none 0 0,.bool false,.slice none 0 0,.slice none 0 0] 26)) w3.heap.size 0 [.int .i64 0,.slice none 0 0,.bool false,.slice none 0 0,.slice none 0 0]).alloc (.cells #[.int .i64 0,.int .i64 0,.int .i64 0,.int .i64 0,.int .i64 0,.int .i64 0,.int .i64 0,.slice none 0 0] 50)) (w3.heap.size + 1) 0 [.int .i64 f.kind,.int .i64 f.fr,.int .i64 f.to,.int .i64 f.null,.int .i64 f.tag,.int .i64 f.df,.int .i64 f.of,vs]) (w3.heap.size + 1) 0 [.int .i64 f.of]) (w3.heap.size + 1) 3 [.int .i64 (-1)]) (w3.heap.size + 1) 4 [.int .i64 (-1)]) w3.heap.size = some (#[.int .i64 0,.slice none 0 0,.bool false,.slice none 0 0,.slice none 0 0],26,(0,0)) := by simp (maxSteps:=1000000)(disch:=(first|omega|(simp only [qI,qJ,qK]<;>omega)|exact qL _)) only [go_sem,↓reduceIte,n0,reduceCtorEq,n1,n2,n3,n4,n5,i0,i1,i2,i3,i4,i5,i6,i7]
  have hb44 : blk (wr (wr (wr (wr ((wr (w3.alloc (.cells #[.int .i64 0,.slice none 0 0,.bool false,.slice none 0 0,.slice none 0 0] 26)) w3.heap.size 0 [.int .i64 0,.slice none 0 0,.bool false,.slice none 0 0,.slice none 0 0]).alloc (.cells #[.int .i64 0,.int .i64 0,.int .i64 0,.int .i64 0,.int .i64 0,.int .i64 0,.int .i64 0,.slice none 0 0] 50)) (w3.heap.size + 1) 0 [.int .i64 f.kind,.int .i64 f.fr,.int .i64 f.to,.int .i64 f.null,.int .i64 f.tag,.int .i64 f.df,.int .i64 f.of,vs]) (w3.heap.size + 1) 0 [.int .i64 f.of]) (w3.heap.size + 1) 3 [.int .i64 (-1)]) (w3.heap.size + 1) 4 [.int .i64 (-1)]) (w3.heap.size + 1) = some (#[.int .i64 f.of,.int .i64 f.fr,.int .i64 f.to,.int .i64 (-1),.int .i64 (-1),.int .i64 f.df,.int .i64 f.of,vs],50,(0,0)) := by simp (maxSteps:=1000000)(disch:=(first|omega|(simp only [qI,qJ,qK]<;>omega)|exact qL _)) only [go_sem,↓reduceIte,n0,reduceCtorEq,n1,n2,n3,n4,n5,i0,i1,i2,i3,i4,i5,i6,i7]
  have hz4 : (wr (wr (wr (wr ((wr (w3.alloc (.cells #[.int .i64 0,.slice none 0 0,.bool false,.slice none 0 0,.slice none 0 0] 26)) w3.heap.size 0 [.int .i64 0,.slice none 0 0,.bool false,.slice none 0 0,.slice none 0 0]).alloc (.cells #[.int .i64 0,.int .i64 0,.int .i64 0,.int .i64 0,.int .i64 0,.int .i64 0,.int .i64 0,.slice none 0 0] 50)) (w3.heap.size + 1) 0 [.int .i64 f.kind,.int .i64 f.fr,.int .i64 f.to,.int .i64 f.null,.int .i64 f.tag,.int .i64 f.df,.int .i64 f.of,vs]) (w3.heap.size + 1) 0 [.int .i64 f.of]) (w3.heap.size + 1) 3 [.int .i64 (-1)]) (w3.heap.size + 1) 4 [.int .i64 (-1)]).heap.size = w3.heap.size + 2 := by simp only [size_wr,World.size_alloc]
  generalize (wr (wr (wr (wr ((wr (w3.alloc (.cells #[.int .i64 0,.slice none 0 0,.bool false,.slice none 0 0,.slice none 0 0] 26)) w3.heap.size 0 [.int .i64 0,.slice none 0 0,.bool false,.slice none 0 0,.slice none 0 0]).alloc (.cells #[.int .i64 0,.int .i64 0,.int .i64 0,.int .i64 0,.int .i64 0,.int .i64 0,.int .i64 0,.slice none 0 0] 50)) (w3.heap.size + 1) 0 [.int .i64 f.kind,.int .i64 f.fr,.int .i64 f.to,.int .i64 f.null,.int .i64 f.tag,.int .i64 f.df,.int .i64 f.of,vs]) (w3.heap.size + 1) 0 [.int .i64 f.of]) (w3.heap.size + 1) 3 [.int .i64 (-1)]) (w3.heap.size + 1) 4 [.int .i64 (-1)]) = w4 at *
  have hE04 : Ext w w4 := hE03.trans hE4
  have hb24 := hE4.blk_some hb23 id
  refine (things_fn (ok := fun b => ok b ∧ b < w.heap.size) t.l _ w4 ((hL.weaken fun b h1 h2 => ⟨h2,h1⟩).keep (hE04.keeps _))).mono ?_
  rintro v5 w5 ⟨hL5,hw5⟩
  obtain rfl := hw5.symm
  obtain ⟨bl,cl,rfl,hcl⟩ := SlR.shape hL5
  simp (maxSteps:=1000000)(disch:=(first|omega|(simp only [qI,qJ,qK]<;>omega)|exact qL _)) only [go_sem,↓reduceIte,n0,reduceCtorEq,n1,n2,n3,n4,n5,i0,i1,i2,i3,i4,i5,i6,i7]
  repeat ((first | refine qA rfl ?_|refine qB ?_|refine qC rfl ?_|refine qD ?_|refine qE ?_|refine qF ?_|refine qG ?_|refine qH ?_);try simp (maxSteps:=1000000)(disch:=(first|omega|(simp only [qI,qJ,qK]<;>omega)|exact qL _)) only [go_sem,↓reduceIte,n0,reduceCtorEq,n1,n2,n3,n4,n5,i0,i1,i2,i3,i4,i5,i6,i7])
  have hlt : (thingsS t.l).length ≤ 32767 := by simp only [thingsS,List.length_take];omega
  have hsml : ∀ x ∈ thingsS t.l,Small 4611686018427387903 x := fun x hx => by
    obtain ⟨i,hi,rfl⟩ := List.getElem_of_mem (List.mem_of_mem_take hx)
    exact hsm.e i hi
  have e : fittedS ft f ver t = .mk 0 [] false ((thingsS t.l).map fun x => fitOne ft f.of f.sub false ver x) [] := by simp [fittedS,hk,hnul,htg,hl0]
  rw [e]
  generalize thingsS t.l = L at *
  have hof : 0 ≤ f.of ∧ f.of ≤ 10 := ⟨hB.2.2.2.2.2.2.1,hB.2.2.2.2.2.2.2⟩
  refine W.loop (fun ρ w' => ∃ (j : Nat) (v : Value),j ≤ L.length ∧ ρ 62 = .int .i64 j ∧ ρ 61 = .int .i64 L.length ∧ ρ 60 = .slice bl L.length cl ∧ ρ 1 = .int .i64 ver ∧ ρ 9 = .pointer (some ⟨w3.heap.size,0,none⟩) ∧ ρ 10 = .pointer (some ⟨w3.heap.size + 1,0,none⟩) ∧ ρ 6 = .pointer (some ⟨w.heap.size + 2,0,none⟩) ∧
      blk w' w3.heap.size = some (#[.int .i64 0,.slice none 0 0,.bool false,v,.slice none 0 0],26,(0,0)) ∧
      GrowT (fun b => okN ok w.heap.size b ∧ b ≠ w.heap.size + 2) w4.heap.size w3.heap.size w' 26 v ((L.take j).map fun x => fitOne ft f.of f.sub false ver x) ∧ Upd (fun b => b = w3.heap.size) w4 w')
    (fun ρ _ => L.length - (RowKit.intOf (ρ 62)).toNat) ?_ ?_
  · refine ⟨0,_,Nat.zero_le _,?_,?_,?_,?_,?_,?_,?_,hb34,GrowT.nil _ _ _ _ _,Upd.refl _ _⟩ <;> simp (maxSteps:=1000000)(disch:=(first|omega|(simp only [qI,qJ,qK]<;>omega)|exact qL _)) only [go_sem,↓reduceIte,n0,reduceCtorEq,n1,n2,n3,n4,n5,i0,i1,i2,i3,i4,i5,i6,i7]
    all_goals rfl
  · rintro ρ w6 ⟨j,v,hj,h62,h61,h60,h1,h9,h10,h6,hbt,hg,hU6⟩
    have hz6 := hU6.size
    by_cases hlt2 : j < L.length
    · obtain ⟨_,b,o,x,vS',vL',vU',hb,hokb,hx,hblt,hxs,hxe,g1,g2,g3,hc⟩ := TreesV.get hL5 hlt2
      subst hb
      have hx6 : blk w6 b = some x := hU6.blk_some hx (by have := hokb.2;omega)
      have hb46 := hU6.blk_some hb44 (by omega)
      have hcat : ((L.take (j + 1)).map fun x => fitOne ft f.of f.sub false ver x) = ((L.take j).map fun x => fitOne ft f.of f.sub false ver x) ++ [fitOne ft f.of f.sub false ver L[j]] := by
        rw [List.take_succ_eq_append_getElem hlt2]
        simp only [List.map_append,List.map_cons,List.map_nil]
      have hnb : ∀ b,b < w4.heap.size ∨ b = w6.heap.size → ¬ ownB v b := fun b hb h => by
        have := hg.above h
        have := hg.below h
        omega
      have hE7 : Ext w6 (wr (w6.alloc (.cells #[.int .i64 0,.slice none 0 0,.bool false,.slice none 0 0,.slice none 0 0] 26)) w6.heap.size 0 [.int .i64 L[j].n,vS',.bool L[j].null,vL',vU']) := (Upd.alloc (Upd.refl _ _) _).wr _ _ (.inl (Nat.le_refl _))
      have hb7 : blk (wr (w6.alloc (.cells #[.int .i64 0,.slice none 0 0,.bool false,.slice none 0 0,.slice none 0 0] 26)) w6.heap.size 0 [.int .i64 L[j].n,vS',.bool L[j].null,vL',vU']) w6.heap.size = some (#[.int .i64 L[j].n,vS',.bool L[j].null,vL',vU'],26,(0,0)) := by simp (maxSteps:=1000000)(disch:=(first|omega|(simp only [qI,qJ,qK]<;>omega)|exact qL _)) only [go_sem,↓reduceIte,n0,reduceCtorEq,n1,n2,n3,n4,n5,i0,i1,i2,i3,i4,i5,i6,i7]
      have hz7 : (wr (w6.alloc (.cells #[.int .i64 0,.slice none 0 0,.bool false,.slice none 0 0,.slice none 0 0] 26)) w6.heap.size 0 [.int .i64 L[j].n,vS',.bool L[j].null,vL',vU']).heap.size = w6.heap.size + 1 := by simp only [size_wr,World.size_alloc]
      have hsmj := hsml L[j] (List.getElem_mem hlt2)
      repeat ((first | refine qA rfl ?_|refine qB ?_|refine qC rfl ?_|refine qD ?_|refine qE ?_|refine qF ?_|refine qG ?_|refine qH ?_);try simp (maxSteps:=1000000)(disch:=(first|omega|(simp only [qI,qJ,qK]<;>omega)|exact qL _)) only [go_sem,↓reduceIte,n0,reduceCtorEq,n1,n2,n3,n4,n5,i0,i1,i2,i3,i4,i5,i6,i7,h62,h61,h60,hx6,hxe,g1,g2,g3,cellsAt_five,Int.toNat_natCast])
      generalize (wr (w6.alloc (.cells #[.int .i64 0,.slice none 0 0,.bool false,.slice none 0 0,.slice none 0 0] 26)) w6.heap.size 0 [.int .i64 L[j].n,vS',.bool L[j].null,vL',vU']) = w7 at *
      have hbt7 := hE7.blk_some hbt id
      have hb47 := hE7.blk_some hb46 id
      refine W.drawR (.take 0 (.take 1 (.take 2 (.take 3 (.take 4 (.only 5 (.only 6 (.only 7 (.take 8 (.last 9)))))))))) (ownB v) mixed (by kernel_rfl) ?_
      simp (maxSteps:=1000000)(disch:=(first|omega|(simp only [qI,qJ,qK]<;>omega)|exact qL _ | (refine hnb _ ?_;first | omega | (simp only [World.size_alloc,size_wr,size_drew] <;> omega)))) only [go_sem,↓reduceIte,n0,reduceCtorEq,n1,n2,n3,n4,n5,i0,i1,i2,i3,i4,i5,i6,i7,h1,h9,h10,hbt7,hb47,hb7,cellsAt_five,cellsAt_eight]
      have hE7d : Ext w7 w7.drew := (Upd.refl _ _).drew
      have hK : Keeps (fun b => ok b ∧ b < w.heap.size) w4 w7.drew := fun b hb hk => by
        rw [hE7d.keep b (by have := hE7.size;omega) id,hE7.keep b (by omega) id,hU6.keep b hb (by have := hk.2;omega)]
      have hsubw : FldsV (fun b => ok b ∧ b < w.heap.size) w7.drew vs f.sub := ((hsub.weaken fun b h1 h2 => ⟨h2,h1⟩).keep (hE04.keeps _)).keep hK
      refine (fitted_one hft (.mk f.of f.fr f.to (-1) (-1) f.df f.of f.sub) ver L[j] _ _ w7.drew (FldC.intro hsubw) hok ⟨hof.1,Int.le_trans hof.2 (by decide),Int.le_refl (-1),(by decide : (-1 : Int) ≤ 1000),hB.2.2.2.2.1,hB.2.2.2.2.2.1,hof.1,hof.2⟩ (hc.keep hK) hsmj (by simp only [Fld.kind];omega)).mono ?_
      rintro v8 w8 ⟨⟨c8,rfl,hc8⟩,hE8⟩
      rw [fitted_of _ _ _ _ _ _ _ _ (by omega)] at hc8
      generalize fitOne ft f.of f.sub false ver L[j] = T at *
      obtain ⟨vS8,vL8,vU8,rfl,hn8,hS8,hL8,hU8⟩ := hc8.inv
      have k1 := hS8.flat
      have k2 := SlR.flat hL8
      have k3 := SlR.flat hU8
      have hz8 := hE8.size
      simp only [size_drew] at hz8
      have hM8 : Upd (ownB v) w7.drew w8 := hE8.mono (fun _ h => h.elim)
      have hE68 : Ext w6 w8 := (hE7.trans hE7d).trans hE8
      have hE9 : Ext w8 (w8.alloc (.cells #[.int .i64 T.n,vS8,.bool T.null,vL8,vU8] 26)) := Upd.alloc (Upd.refl _ _) _
      have hM9 : Upd (ownB v) w7.drew (w8.alloc (.cells #[.int .i64 T.n,vS8,.bool T.null,vL8,vU8] 26)) := hM8.alloc _
      refine ⟨hM8,?_⟩
      simp (maxSteps:=1000000)(disch:=(first|omega|(simp only [qI,qJ,qK]<;>omega)|exact qL _)) only [go_sem,↓reduceIte,n0,reduceCtorEq,n1,n2,n3,n4,n5,i0,i1,i2,i3,i4,i5,i6,i7,k1,k2,k3]
      refine ⟨hM9,?_⟩
      have hg9 := (hg.ext hE68).ext hE9
      have hx9 : TreeC (fun b => (okN ok w.heap.size b ∧ b ≠ w.heap.size + 2) ∧ b ≠ w3.heap.size ∧ ¬ ownB v b) (w8.alloc (.cells #[.int .i64 T.n,vS8,.bool T.null,vL8,vU8] 26)) T [.int .i64 T.n,vS8,.bool T.null,vL8,vU8] :=
        (hc8.keep (hE9.keeps _)).weaken fun b _ hk => by
          rcases hk with ⟨h1,h2⟩ | h2
          · exact ⟨⟨.inl h1,by omega⟩,by omega,fun h => by have := hg.above h;omega⟩
          · simp only [size_drew] at h2
            exact ⟨⟨.inr (by omega),by omega⟩,by omega,fun h => by have := hg.below h;omega⟩
      have hlen9 : ((L.take j).map fun x => fitOne ft f.of f.sub false ver x).length = j := by simp;omega
      obtain ⟨css,hown,hall⟩ := hg9.ex
      have hcl9 := hall.1
      refine wp_append ap_23_23 (m := 1) (news := [.int .i64 T.n,vS8,.bool T.null,vL8,vU8]) (n := css.length) (cs := css.flatten) (v := v) ?_ rfl hown.1 (all2_flat_tree hall) (Src.blk (fr := (0,0)) (T := 26) (blk_alloc_new rfl) rfl (flat_tree hx9).1) ?_ ?_ ?_
      · simp (maxSteps:=1000000)(disch:=(first|omega|(simp only [qI,qJ,qK]<;>omega)|exact qL _)) only [go_sem,↓reduceIte,n0,reduceCtorEq,n1,n2,n3,n4,n5,i0,i1,i2,i3,i4,i5,i6,i7]
      · simp only [World.size_alloc];omega
      · omega
      intro v' w10 ho hu hfr
      have hg10 := GrowT.snoc hown hall hx9 hu hfr ho
      have hz10 := hu.size
      simp only [World.size_alloc] at hz10
      obtain ⟨va,vc,hv',_⟩ := ho.shape
      subst hv'
      have hbt10 := (hM9.trans hu).blk_some (hE7d.blk_some hbt7 id) (hnb _ (by omega))
      have htb : ¬ ownB (.slice va (css.length + 1) vc) w3.heap.size := fun h => by
        rcases hfr _ h with h | h
        · exact hnb _ (.inl (by omega)) h
        · simp only [World.size_alloc] at h;omega
      simp (maxSteps:=1000000)(disch:=(first|omega|(simp only [qI,qJ,qK]<;>omega)|exact qL _)) only [go_sem,↓reduceIte,n0,reduceCtorEq,n1,n2,n3,n4,n5,i0,i1,i2,i3,i4,i5,i6,i7]
      refine ⟨hM9.trans hu,?_⟩
      simp (maxSteps:=1000000)(disch:=(first|omega|(simp only [qI,qJ,qK]<;>omega)|exact qL _)) only [go_sem,↓reduceIte,n0,reduceCtorEq,n1,n2,n3,n4,n5,i0,i1,i2,i3,i4,i5,i6,i7,h9,hbt10]
      repeat ((first | refine qA rfl ?_|refine qB ?_|refine qC rfl ?_|refine qD ?_|refine qE ?_|refine qF ?_|refine qG ?_|refine qH ?_);try simp (maxSteps:=1000000)(disch:=(first|omega|(simp only [qI,qJ,qK]<;>omega)|exact qL _)) only [go_sem,↓reduceIte,n0,reduceCtorEq,n1,n2,n3,n4,n5,i0,i1,i2,i3,i4,i5,i6,i7,h62])
      refine ⟨⟨j + 1,.slice va (css.length + 1) vc,by omega,rfl,h61,h60,h1,h9,h10,h6,?_,?_,?_⟩,?_⟩
      · simp (maxSteps:=1000000)(disch:=(first|omega|(simp only [qI,qJ,qK]<;>omega)|exact qL _)) only [go_sem,↓reduceIte,n0,reduceCtorEq,n1,n2,n3,n4,n5,i0,i1,i2,i3,i4,i5,i6,i7,hbt10]
      · rw [hcat];exact hg10.upd ((Upd.refl _ _).wr _ _ (.inr rfl)) htb
      · refine Upd.wr ?_ _ _ (.inr rfl)
        exact hU6.more (((hE68.trans hE9).mono fun _ h => h.elim).trans hu) fun b hb h => by have := hg.above h;omega
      · simp only [RowKit.intOf];omega
    · have hjl : j = L.length := by omega
      subst hjl
      rw [List.take_length] at hg
      obtain ⟨va,vc,hv',_⟩ := hg.shape
      subst hv'
      have hb26 := hU6.blk_some hb24 (by omega)
      repeat ((first | refine qA rfl ?_|refine qB ?_|refine qC rfl ?_|refine qD ?_|refine qE ?_|refine qF ?_|refine qG ?_|refine qH ?_);try simp (maxSteps:=1000000)(disch:=(first|omega|(simp only [qI,qJ,qK]<;>omega)|exact qL _)) only [go_sem,↓reduceIte,n0,reduceCtorEq,n1,n2,n3,n4,n5,i0,i1,i2,i3,i4,i5,i6,i7,h62,h61,h9,h6,hbt,hb26,cellsAt_five])
      have hEf : Ext w6 w6 := Upd.refl _ _
      have hE06 : Ext w w6 := hE04.more hU6 fun b hb h => by omega
      refine ⟨⟨_,rfl,?_⟩,hE06.wr _ _ (.inl (by omega))⟩
      have ht6 := hg.trees (ok' := fun b => okN ok w.heap.size b ∧ b ≠ w.heap.size + 2) (fun _ _ h => h) (fun b hb => ⟨.inr (by omega),by omega⟩)
      have hU7 : Upd (fun b => b = w.heap.size + 2) w6 (wr w6 (w.heap.size + 2) 0 [.int .i64 0,.slice none 0 0,.bool false,.slice va (L.map fun x => fitOne ft f.of f.sub false ver x).length vc,.slice none 0 0]) := (Upd.refl _ _).wr _ _ (.inr rfl)
      exact TreeC.intro rfl (bytes_nil _ _) ((ht6.keep (hU7.keeps fun b _ hk e => hk.2 e)).weaken fun b _ hk => hk.1) (tags_nil _ _)

theorem fitted_fn {d : Nat} {ft : List Fld → Int → Tree → Tree} (hft : FitOk d ft) {ok : Blocks} (f : Fld) (ver : Int) (t : Tree) (cf ct : List Value) (w : World) (hf : FldC ok w f cf) (hok : okF d f.sub = true) (hB : okB f) (ht : TreeC ok w t ct) (hsm : Small 4611686018427387903 t) :
    Fn Tryz.prog 21 #[.agg cf.toArray,.int .i64 ver,.agg ct.toArray] w fun r w' => TreeR ok w w' r (fittedS ft f ver t) ∧ Ext w w' := by
  by_cases h11 : f.kind = 11
  · cases hnul : nullS f ver t with
    | true => exact fitted_k11a hft f ver t cf ct w hf hok hB ht hsm h11 hnul
    | false =>
      by_cases htg : f.tag < 0
      · exact fitted_k11b hft f ver t cf ct w hf hok hB ht hsm h11 hnul htg
      by_cases hl0 : t.l.length = 0
      · exact fitted_k11c hft f ver t cf ct w hf hok hB ht hsm h11 hnul (by omega) hl0
      exact fitted_k11d hft f ver t cf ct w hf hok hB ht hsm h11 hnul (by omega) hl0
  exact fitted_one hft f ver t cf ct w hf hok hB ht hsm h11
end Ms

