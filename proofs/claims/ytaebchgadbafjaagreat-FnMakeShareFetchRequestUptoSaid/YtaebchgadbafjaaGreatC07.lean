/- A part of the proof: see the last text. -/
import Derived.Test.YtaebchgadbafjaaGreatC02
import Derived.Test.YtaebchgadbafjaaGreatC05
import Derived.Test.YtaebchgadbafjaaGreatC06
set_option linter.unusedSimpArgs false
set_option linter.unusedVariables false
namespace Ms
open Go.World renaming size_alloc → qI
open Ms renaming size_wr → qJ,size_drew → qK,not_noB → qL
open W renaming seqR → qA,seq → qB,regR → qC,condK → qD,block → qE,skip → qF,ret → qG,exit → qH
open Nat renaming reduceEqDiff → n0,reduceAdd → n1,reduceMul → n2,reduceSub → n3,reduceLT → n4,reduceLeDiff → n5
open Int renaming reduceEq → i0,reduceLT → i1,reduceLE → i2,reduceNeg → i3,reduceAdd → i4,reduceSub → i5,reduceMul → i6,reduceToNat → i7
set_option maxRecDepth 4000
open Go Go.Proofs
attribute [local congr] W_congr WPsq_congr WPp_congr optK_congr addrK_congr intK_congr boolK_congr sliceK_congr tupleK_congr funcK_congr Fn_congr rawK_congr takeK_congr stepK_congr convK_congr aggK_congr

theorem Fit_fn {d : Nat} {ft : List Fld → Int → Tree → Tree} (fs : List Fld) (ok : Blocks) (ver : Int) (t : Tree) (vf : Value) (ct : List Value) (w : World) (hf : FldsV ok w vf fs) (hfl : fs.length ≤ 1000) (htag : ∀ f ∈ fs,f.tag ≤ 1000) (ht : TreeC ok w t ct) (hsm : Small 4611686018427387903 t)
    (hfit : ∀ f ∈ fs,∀ (ok : Blocks) (x : Tree) (cf cx : List Value) (w' : World),FldC ok w' f cf → TreeC ok w' x cx → Small 4611686018427387903 x →
      Fn Tryz.prog 21 #[.agg cf.toArray,.int .i64 ver,.agg cx.toArray] w' fun r w'' => TreeR ok w' w'' r (fittedS ft f ver x) ∧ Ext w' w'') :
    Fn Tryz.prog 11 #[vf,.int .i64 ver,.agg ct.toArray] w fun r w' => TreeR ok w w' r (.mk 0 [] false (fitL ft fs ver t fs.length) (fitU fs t.u)) ∧ Ext w w' := by
  obtain ⟨bf,cf,rfl,hcf⟩ := SlR.shape hf
  obtain ⟨vS,vL,vU,rfl,hn,hS,hL,hU⟩ := ht.inv
  have hl1 := hsm.s
  have hl2 := hsm.l
  have f1 := hS.flat
  have f2 := SlR.flat hL
  have f3 := SlR.flat hU
  have hE : Ext w (wr (((w.alloc (.cells #[.int .i64 t.n,vS,.bool t.null,vL,vU] 26)).alloc (.cells #[.int .i64 0,.slice none 0 0,.bool false,.slice none 0 0,.slice none 0 0] 26)).alloc (.cells #[.int .i64 0,.slice none 0 0,.bool false,.slice none 0 0,.slice none 0 0] 26)) (w.heap.size + 2) 0 [.int .i64 0,.slice none 0 0,.bool false,.slice none 0 0,.slice none 0 0]) := (((Upd.refl _ _).alloc _).alloc _).alloc _ |>.wr _ _ (.inl (by omega))
  refine fn_of_W Tryz.func11 rfl Tryz.results11 Tryz.ntmps11 rfl ?_
  repeat ((first | refine qA rfl ?_|refine qB ?_|refine qC rfl ?_|refine qD ?_|refine qE ?_|refine qF ?_|refine qG ?_|refine qH ?_);try simp (maxSteps:=1000000)(disch:=(first|omega|(simp only [qI,qJ,qK]<;>omega)|exact qL _)) only [go_sem,↓reduceIte,n0,reduceCtorEq,n1,n2,n3,n4,n5,i0,i1,i2,i3,i4,i5,i6,i7,f1,f2,f3])
  have hb0 : blk (wr (((w.alloc (.cells #[.int .i64 t.n,vS,.bool t.null,vL,vU] 26)).alloc (.cells #[.int .i64 0,.slice none 0 0,.bool false,.slice none 0 0,.slice none 0 0] 26)).alloc (.cells #[.int .i64 0,.slice none 0 0,.bool false,.slice none 0 0,.slice none 0 0] 26)) (w.heap.size + 2) 0 [.int .i64 0,.slice none 0 0,.bool false,.slice none 0 0,.slice none 0 0]) w.heap.size = some (#[.int .i64 t.n,vS,.bool t.null,vL,vU],26,(0,0)) := by simp (maxSteps:=1000000)(disch:=(first|omega|(simp only [qI,qJ,qK]<;>omega)|exact qL _)) only [go_sem,↓reduceIte,n0,reduceCtorEq,n1,n2,n3,n4,n5,i0,i1,i2,i3,i4,i5,i6,i7]
  have hb1 : blk (wr (((w.alloc (.cells #[.int .i64 t.n,vS,.bool t.null,vL,vU] 26)).alloc (.cells #[.int .i64 0,.slice none 0 0,.bool false,.slice none 0 0,.slice none 0 0] 26)).alloc (.cells #[.int .i64 0,.slice none 0 0,.bool false,.slice none 0 0,.slice none 0 0] 26)) (w.heap.size + 2) 0 [.int .i64 0,.slice none 0 0,.bool false,.slice none 0 0,.slice none 0 0]) (w.heap.size + 1) = some (#[.int .i64 0,.slice none 0 0,.bool false,.slice none 0 0,.slice none 0 0],26,(0,0)) := by simp (maxSteps:=1000000)(disch:=(first|omega|(simp only [qI,qJ,qK]<;>omega)|exact qL _)) only [go_sem,↓reduceIte,n0,reduceCtorEq,n1,n2,n3,n4,n5,i0,i1,i2,i3,i4,i5,i6,i7]
  have hb2 : blk (wr (((w.alloc (.cells #[.int .i64 t.n,vS,.bool t.null,vL,vU] 26)).alloc (.cells #[.int .i64 0,.slice none 0 0,.bool false,.slice none 0 0,.slice none 0 0] 26)).alloc (.cells #[.int .i64 0,.slice none 0 0,.bool false,.slice none 0 0,.slice none 0 0] 26)) (w.heap.size + 2) 0 [.int .i64 0,.slice none 0 0,.bool false,.slice none 0 0,.slice none 0 0]) (w.heap.size + 2) = some (#[.int .i64 0,.slice none 0 0,.bool false,.slice none 0 0,.slice none 0 0],26,(0,0)) := by simp (maxSteps:=1000000)(disch:=(first|omega|(simp only [qI,qJ,qK]<;>omega)|exact qL _)) only [go_sem,↓reduceIte,n0,reduceCtorEq,n1,n2,n3,n4,n5,i0,i1,i2,i3,i4,i5,i6,i7]
  have hz2 : (wr (((w.alloc (.cells #[.int .i64 t.n,vS,.bool t.null,vL,vU] 26)).alloc (.cells #[.int .i64 0,.slice none 0 0,.bool false,.slice none 0 0,.slice none 0 0] 26)).alloc (.cells #[.int .i64 0,.slice none 0 0,.bool false,.slice none 0 0,.slice none 0 0] 26)) (w.heap.size + 2) 0 [.int .i64 0,.slice none 0 0,.bool false,.slice none 0 0,.slice none 0 0]).heap.size = w.heap.size + 3 := by simp only [size_wr,World.size_alloc]
  generalize (wr (((w.alloc (.cells #[.int .i64 t.n,vS,.bool t.null,vL,vU] 26)).alloc (.cells #[.int .i64 0,.slice none 0 0,.bool false,.slice none 0 0,.slice none 0 0] 26)).alloc (.cells #[.int .i64 0,.slice none 0 0,.bool false,.slice none 0 0,.slice none 0 0] 26)) (w.heap.size + 2) 0 [.int .i64 0,.slice none 0 0,.bool false,.slice none 0 0,.slice none 0 0]) = w2 at *
  refine W.exitJ 0 (fun ρ w' => ∃ v,ρ 0 = .slice bf fs.length cf ∧ ρ 5 = .pointer (some ⟨w.heap.size,0,none⟩) ∧ ρ 6 = .pointer (some ⟨w.heap.size + 1,0,none⟩) ∧ ρ 7 = .pointer (some ⟨w.heap.size + 2,0,none⟩) ∧
      blk w' (w.heap.size + 2) = some (#[.int .i64 0,.slice none 0 0,.bool false,v,.slice none 0 0],26,(0,0)) ∧ GrowT (fun b => okN ok w.heap.size b ∧ b ≠ w.heap.size + 1 ∧ b ≠ w.heap.size + 2) w2.heap.size (w.heap.size + 2) w' 26 v (fitL ft fs ver t fs.length) ∧ Upd (fun b => b = w.heap.size + 2) w2 w')
    (W.loop (fun ρ w' => ∃ (j : Nat) (v : Value),j ≤ fs.length ∧ ρ 15 = .int .i64 j ∧ ρ 14 = .int .i64 fs.length ∧ ρ 13 = .slice bf fs.length cf ∧ ρ 0 = .slice bf fs.length cf ∧ ρ 1 = .int .i64 ver ∧ ρ 5 = .pointer (some ⟨w.heap.size,0,none⟩) ∧ ρ 6 = .pointer (some ⟨w.heap.size + 1,0,none⟩) ∧ ρ 7 = .pointer (some ⟨w.heap.size + 2,0,none⟩) ∧
      blk w' (w.heap.size + 2) = some (#[.int .i64 0,.slice none 0 0,.bool false,v,.slice none 0 0],26,(0,0)) ∧ GrowT (fun b => okN ok w.heap.size b ∧ b ≠ w.heap.size + 1 ∧ b ≠ w.heap.size + 2) w2.heap.size (w.heap.size + 2) w' 26 v (fitL ft fs ver t j) ∧ Upd (fun b => b = w.heap.size + 2) w2 w')
    (fun ρ _ => fs.length - (RowKit.intOf (ρ 15)).toNat) ?_ ?_) ?_
  · refine ⟨0,_,Nat.zero_le _,?_,?_,?_,?_,?_,?_,?_,?_,hb2,GrowT.nil _ _ _ _ _,Upd.refl _ _⟩ <;> simp (maxSteps:=1000000)(disch:=(first|omega|(simp only [qI,qJ,qK]<;>omega)|exact qL _)) only [go_sem,↓reduceIte,n0,reduceCtorEq,n1,n2,n3,n4,n5,i0,i1,i2,i3,i4,i5,i6,i7]
    all_goals rfl
  · rintro ρ w6 ⟨j,v,hj,h15,h14,h13,h0,h1,h5,h6,h7,hbt,hg,hU6⟩
    have hz6 := hU6.size
    have hb06 := hU6.blk_some hb0 (by omega)
    have hE06 : Ext w w6 := hE.more hU6 fun b hb h => by omega
    by_cases hlt : j < fs.length
    · obtain ⟨_,b,o,x,vs2,hb,hokb,hx,hblt,hxs,hxe,hfl2,hsub2⟩ := FldsV.get hf hlt
      subst hb
      have hx6 : blk w6 b = some x := hE06.blk_some hx id
      have hmem := List.getElem_mem hlt
      have hcat := fitL_snoc ft fs ver t j hlt
      have hlen9 := fitL_len ft fs ver t j hj
      generalize fs[j] = g at *
      have hnb : ∀ b,b < w2.heap.size ∨ b = w6.heap.size → ¬ ownB v b := fun b hb h => by
        have := hg.above h
        have := hg.below h
        omega
      have hE7 : Ext w6 (wr (w6.alloc (.cells #[.int .i64 0,.int .i64 0,.int .i64 0,.int .i64 0,.int .i64 0,.int .i64 0,.int .i64 0,.slice none 0 0] 50)) w6.heap.size 0 [.int .i64 g.kind,.int .i64 g.fr,.int .i64 g.to,.int .i64 g.null,.int .i64 g.tag,.int .i64 g.df,.int .i64 g.of,vs2]) := (Upd.alloc (Upd.refl _ _) _).wr _ _ (.inl (Nat.le_refl _))
      have hb7 : blk (wr (w6.alloc (.cells #[.int .i64 0,.int .i64 0,.int .i64 0,.int .i64 0,.int .i64 0,.int .i64 0,.int .i64 0,.slice none 0 0] 50)) w6.heap.size 0 [.int .i64 g.kind,.int .i64 g.fr,.int .i64 g.to,.int .i64 g.null,.int .i64 g.tag,.int .i64 g.df,.int .i64 g.of,vs2]) w6.heap.size = some (#[.int .i64 g.kind,.int .i64 g.fr,.int .i64 g.to,.int .i64 g.null,.int .i64 g.tag,.int .i64 g.df,.int .i64 g.of,vs2],50,(0,0)) := by simp (maxSteps:=1000000)(disch:=(first|omega|(simp only [qI,qJ,qK]<;>omega)|exact qL _)) only [go_sem,↓reduceIte,n0,reduceCtorEq,n1,n2,n3,n4,n5,i0,i1,i2,i3,i4,i5,i6,i7]
      have hz7 : (wr (w6.alloc (.cells #[.int .i64 0,.int .i64 0,.int .i64 0,.int .i64 0,.int .i64 0,.int .i64 0,.int .i64 0,.slice none 0 0] 50)) w6.heap.size 0 [.int .i64 g.kind,.int .i64 g.fr,.int .i64 g.to,.int .i64 g.null,.int .i64 g.tag,.int .i64 g.df,.int .i64 g.of,vs2]).heap.size = w6.heap.size + 1 := by simp only [size_wr,World.size_alloc]
      repeat ((first | refine qA rfl ?_|refine qB ?_|refine qC rfl ?_|refine qD ?_|refine qE ?_|refine qF ?_|refine qG ?_|refine qH ?_);try simp (maxSteps:=1000000)(disch:=(first|omega|(simp only [qI,qJ,qK]<;>omega)|exact qL _)) only [go_sem,↓reduceIte,n0,reduceCtorEq,n1,n2,n3,n4,n5,i0,i1,i2,i3,i4,i5,i6,i7,h15,h14,h13,hx6,hxe,hfl2,cellsAt_eight,Int.toNat_natCast])
      generalize (wr (w6.alloc (.cells #[.int .i64 0,.int .i64 0,.int .i64 0,.int .i64 0,.int .i64 0,.int .i64 0,.int .i64 0,.slice none 0 0] 50)) w6.heap.size 0 [.int .i64 g.kind,.int .i64 g.fr,.int .i64 g.to,.int .i64 g.null,.int .i64 g.tag,.int .i64 g.df,.int .i64 g.of,vs2]) = w7 at *
      have hbt7 := hE7.blk_some hbt id
      have hb07 := hE7.blk_some hb06 id
      refine W.drawR (.take 0 (.take 1 (.take 2 (.take 3 (.take 4 (.take 5 (.only 6 (.only 7 (.only 8 (.only 9 (.take 10 (.last 11)))))))))))) (ownB v) mixed (by kernel_rfl) ?_
      simp (maxSteps:=1000000)(disch:=(first|omega|(simp only [qI,qJ,qK]<;>omega)|exact qL _ | (refine hnb _ ?_;first | omega | (simp only [World.size_alloc,size_wr,size_drew] <;> omega)))) only [go_sem,↓reduceIte,n0,reduceCtorEq,n1,n2,n3,n4,n5,i0,i1,i2,i3,i4,i5,i6,i7,h1,h5,h7,hbt7,hb07,hb7,cellsAt_five,cellsAt_eight]
      have hE7d : Ext w7 w7.drew := (Upd.refl _ _).drew
      have hE07d : Ext w w7.drew := (hE06.trans hE7).trans hE7d
      refine (at_fn (ok := fun b => ok b ∧ b < w.heap.size) t j _ _ ((ht.weaken fun b h1 h2 => ⟨h2,h1⟩).keep (hE07d.keeps _)) (by omega) (by omega)).mono ?_
      rintro va' wa ⟨⟨ca,rfl,hca⟩,hEa⟩
      refine ⟨hEa.mono (fun _ h => h.elim),?_⟩
      have hE0a : Ext w wa := hE07d.trans hEa
      have hza := hEa.size
      simp only [size_drew] at hza
      refine (hfit g hmem (fun b => ok b ∧ b < w.heap.size) (t.at j) _ ca wa (FldC.of ((hsub2.weaken fun b h1 h2 => ⟨h2,h1⟩).keep (hE0a.keeps _))) hca (hsm.at j)).mono ?_
      rintro v8 w8 ⟨⟨c8,rfl,hc8⟩,hE8'⟩
      have hE8 : Ext w7.drew w8 := hEa.trans hE8'
      generalize fittedS ft g ver (t.at j) = T at *
      obtain ⟨vS8,vL8,vU8,rfl,hn8,hS8,hL8,hU8⟩ := hc8.inv
      have k1 := hS8.flat
      have k2 := SlR.flat hL8
      have k3 := SlR.flat hU8
      have hz8 := hE8.size
      simp only [size_drew] at hz8
      have hM8 : Upd (ownB v) w7.drew w8 := hE8.mono (fun _ h => h.elim)
      have hE68 : Ext w6 w8 := (hE7.trans hE7d).trans hE8
      have hE9 : Ext w8 (w8.alloc (.cells #[.int .i64 T.n,vS8,.bool T.null,vL8,vU8] 26)) := Upd.alloc (Upd.refl _ _) _
      have hM9 : Upd (ownB v) w7.drew (w8.alloc (.cells #[.int .i64 T.n,vS8,.bool T.null,vL8,vU8] 26)) := hM8.alloc _
      refine ⟨hM8,?_⟩
      simp (maxSteps:=1000000)(disch:=(first|omega|(simp only [qI,qJ,qK]<;>omega)|exact qL _)) only [go_sem,↓reduceIte,n0,reduceCtorEq,n1,n2,n3,n4,n5,i0,i1,i2,i3,i4,i5,i6,i7,k1,k2,k3]
      refine ⟨hM9,?_⟩
      have hg9 := (hg.ext hE68).ext hE9
      have hx9 : TreeC (fun b => (fun b => okN ok w.heap.size b ∧ b ≠ w.heap.size + 1 ∧ b ≠ w.heap.size + 2) b ∧ b ≠ w.heap.size + 2 ∧ ¬ ownB v b) (w8.alloc (.cells #[.int .i64 T.n,vS8,.bool T.null,vL8,vU8] 26)) T [.int .i64 T.n,vS8,.bool T.null,vL8,vU8] :=
        (hc8.keep (hE9.keeps _)).weaken fun b _ hk => by
          rcases hk with ⟨h1,h2⟩ | h2
          · exact ⟨⟨.inl h1,by omega,by omega⟩,by omega,fun h => by have := hg.above h;omega⟩
          · exact ⟨⟨.inr (by omega),by omega,by omega⟩,by omega,fun h => by have := hg.below h;omega⟩
      obtain ⟨css,hown,hall⟩ := hg9.ex
      have hcl9 := hall.1
      refine wp_append ap_23_23 (m := 1) (news := [.int .i64 T.n,vS8,.bool T.null,vL8,vU8]) (n := css.length) (cs := css.flatten) (v := v) ?_ rfl hown.1 (all2_flat_tree hall) (Src.blk (fr := (0,0)) (T := 26) (blk_alloc_new rfl) rfl (flat_tree hx9).1) ?_ ?_ ?_
      · simp (maxSteps:=1000000)(disch:=(first|omega|(simp only [qI,qJ,qK]<;>omega)|exact qL _)) only [go_sem,↓reduceIte,n0,reduceCtorEq,n1,n2,n3,n4,n5,i0,i1,i2,i3,i4,i5,i6,i7]
      · simp only [World.size_alloc];omega
      · omega
      intro v' w10 ho hu hfr
      have hg10 := GrowT.snoc hown hall hx9 hu hfr ho
      have hz10 := hu.size
      simp only [World.size_alloc] at hz10
      obtain ⟨va,vc,hv',_⟩ := ho.shape
      subst hv'
      have hbt10 := (hM9.trans hu).blk_some (hE7d.blk_some hbt7 id) (hnb _ (by omega))
      have htb : ¬ ownB (.slice va (css.length + 1) vc) (w.heap.size + 2) := fun h => by
        rcases hfr _ h with h | h
        · exact hnb _ (.inl (by omega)) h
        · simp only [World.size_alloc] at h;omega
      simp (maxSteps:=1000000)(disch:=(first|omega|(simp only [qI,qJ,qK]<;>omega)|exact qL _)) only [go_sem,↓reduceIte,n0,reduceCtorEq,n1,n2,n3,n4,n5,i0,i1,i2,i3,i4,i5,i6,i7]
      refine ⟨hM9.trans hu,?_⟩
      simp (maxSteps:=1000000)(disch:=(first|omega|(simp only [qI,qJ,qK]<;>omega)|exact qL _)) only [go_sem,↓reduceIte,n0,reduceCtorEq,n1,n2,n3,n4,n5,i0,i1,i2,i3,i4,i5,i6,i7,h7,hbt10]
      repeat ((first | refine qA rfl ?_|refine qB ?_|refine qC rfl ?_|refine qD ?_|refine qE ?_|refine qF ?_|refine qG ?_|refine qH ?_);try simp (maxSteps:=1000000)(disch:=(first|omega|(simp only [qI,qJ,qK]<;>omega)|exact qL _)) only [go_sem,↓reduceIte,n0,reduceCtorEq,n1,n2,n3,n4,n5,i0,i1,i2,i3,i4,i5,i6,i7,h15])
      refine ⟨⟨j + 1,.slice va (css.length + 1) vc,by omega,rfl,h14,h13,h0,h1,h5,h6,h7,?_,?_,?_⟩,?_⟩
      · simp (maxSteps:=1000000)(disch:=(first|omega|(simp only [qI,qJ,qK]<;>omega)|exact qL _)) only [go_sem,↓reduceIte,n0,reduceCtorEq,n1,n2,n3,n4,n5,i0,i1,i2,i3,i4,i5,i6,i7,hbt10]
      · rw [hcat];exact hg10.upd ((Upd.refl _ _).wr _ _ (.inr rfl)) htb
      · refine Upd.wr ?_ _ _ (.inr rfl)
        exact hU6.more (((hE68.trans hE9).mono fun _ h => h.elim).trans hu) fun b hb h => by have := hg.above h;omega
      · simp only [RowKit.intOf];omega
    · have hjl : j = fs.length := by omega
      subst hjl
      repeat ((first | refine qA rfl ?_|refine qB ?_|refine qC rfl ?_|refine qD ?_|refine qE ?_|refine qF ?_|refine qG ?_|refine qH ?_);try simp (maxSteps:=1000000)(disch:=(first|omega|(simp only [qI,qJ,qK]<;>omega)|exact qL _)) only [go_sem,↓reduceIte,n0,reduceCtorEq,n1,n2,n3,n4,n5,i0,i1,i2,i3,i4,i5,i6,i7,h15,h14])
      exact ⟨v,h0,h5,h6,h7,hbt,hg,hU6⟩
  · rintro ρ w5 ⟨vl,h0,h5,h6,h7,hbt,hg,hU5⟩
    have hz5 := hU5.size
    have hE05 : Ext w w5 := hE.more hU5 fun b hb h => by omega
    have hb05 := hU5.blk_some hb0 (by omega)
    have hb15 := hU5.blk_some hb1 (by omega)
    obtain ⟨al,cl,hvl,hcl⟩ := hg.shape
    subst hvl
    have hTL : TreesV (fun b => (fun b => okN ok w.heap.size b ∧ b ≠ w.heap.size + 1 ∧ b ≠ w.heap.size + 2) b ∧ b < w5.heap.size) w5 (.slice al (fitL ft fs ver t fs.length).length cl) (fitL ft fs ver t fs.length) :=
      (hg.trees (ok' := (fun b => okN ok w.heap.size b ∧ b ≠ w.heap.size + 1 ∧ b ≠ w.heap.size + 2)) (fun _ _ h => h) (fun b hb => ⟨.inr (by omega),by omega,by omega⟩)).weaken fun b h1 h2 => ⟨h2,h1⟩
    generalize fitL ft fs ver t fs.length = XL at *
    simp (maxSteps:=1000000)(disch:=(first|omega|(simp only [qI,qJ,qK]<;>omega)|exact qL _)) only [go_sem,↓reduceIte,n0,reduceCtorEq,n1,n2,n3,n4,n5,i0,i1,i2,i3,i4,i5,i6,i7]
    repeat ((first | refine qA rfl ?_|refine qB ?_|refine qC rfl ?_|refine qD ?_|refine qE ?_|refine qF ?_|refine qG ?_|refine qH ?_);try simp (maxSteps:=1000000)(disch:=(first|omega|(simp only [qI,qJ,qK]<;>omega)|exact qL _)) only [go_sem,↓reduceIte,n0,reduceCtorEq,n1,n2,n3,n4,n5,i0,i1,i2,i3,i4,i5,i6,i7,h0,h5,hb05])
    refine (unknown_fn (ok := fun b => ok b ∧ b < w.heap.size) fs _ t.u vU w5 ((hf.weaken fun b h1 h2 => ⟨h2,h1⟩).keep (hE05.keeps _)) hfl htag ((hU.weaken fun b h1 h2 => ⟨h2,h1⟩).keep (hE05.keeps _))).mono ?_
    rintro vu w7 ⟨⟨cssU,hownU,hallU⟩,hE57⟩
    obtain ⟨au,cu,rfl,hcu⟩ := hownU.shape
    have hcl := hallU.1
    have hul := unknownS_len fs t.u
    have hE07 : Ext w w7 := hE05.trans hE57
    have hbt7 := hE57.blk_some hbt id
    have hb17 := hE57.blk_some hb15 id
    have hz7 := hE57.size
    rw [← hcl] at hownU hcu
    rw [← hcl]
    simp (maxSteps:=1000000)(disch:=(first|omega|(simp only [qI,qJ,qK]<;>omega)|exact qL _)) only [go_sem,↓reduceIte,n0,reduceCtorEq,n1,n2,n3,n4,n5,i0,i1,i2,i3,i4,i5,i6,i7]
    repeat ((first | refine qA rfl ?_|refine qB ?_|refine qC rfl ?_|refine qD ?_|refine qE ?_|refine qF ?_|refine qG ?_|refine qH ?_);try simp (maxSteps:=1000000)(disch:=(first|omega|(simp only [qI,qJ,qK]<;>omega)|exact qL _)) only [go_sem,↓reduceIte,n0,reduceCtorEq,n1,n2,n3,n4,n5,i0,i1,i2,i3,i4,i5,i6,i7])
    have hres : fitU fs t.u = (unknownS fs t.u).map fun u => (u.1,wholeS u.2) := rfl
    rw [hres]
    generalize unknownS fs t.u = U at *
    have hTL7 := hTL.keep (hE57.keeps _)
    refine W.loop (fun ρ w' => ∃ (j : Nat) (v : Value),j ≤ U.length ∧ ρ 37 = .int .i64 j ∧ ρ 36 = .int .i64 U.length ∧ ρ 35 = .slice au U.length cu ∧ ρ 6 = .pointer (some ⟨w.heap.size + 1,0,none⟩) ∧ ρ 7 = .pointer (some ⟨w.heap.size + 2,0,none⟩) ∧
        blk w' (w.heap.size + 2) = some (#[.int .i64 0,.slice none 0 0,.bool false,.slice al XL.length cl,v],26,(0,0)) ∧ GrowU (fun b => okN ok w.heap.size b ∧ b ≠ w.heap.size + 1 ∧ b ≠ w.heap.size + 2) w7.heap.size (w.heap.size + 2) w' 66 v ((U.take j).map fun u => (u.1,wholeS u.2)) ∧ Upd (fun b => b = w.heap.size + 2) w7 w')
      (fun ρ _ => U.length - (RowKit.intOf (ρ 37)).toNat) ?_ ?_
    · refine ⟨0,_,Nat.zero_le _,?_,?_,?_,?_,?_,hbt7,GrowU.nil _ _ _ _ _,Upd.refl _ _⟩ <;> simp (maxSteps:=1000000)(disch:=(first|omega|(simp only [qI,qJ,qK]<;>omega)|exact qL _)) only [go_sem,↓reduceIte,n0,reduceCtorEq,n1,n2,n3,n4,n5,i0,i1,i2,i3,i4,i5,i6,i7,h6,h7]
      all_goals rfl
    · clear h0 h5 h6 h7 hg hbt
      rintro ρ w6 ⟨j,v,hj,h37,h36,h35,h6,h7,hbt,hg,hU6⟩
      have hz6 := hU6.size
      by_cases hlt : j < U.length
      · have hown6 := hownU.upd hU6 (fun b hb e => by have := Own.above hownU.1 hb;omega)
        obtain ⟨g,cap,x,hv,hcap,hBg,hgl,hgb,hg1,hg2,hg3⟩ := hown6.view (by omega)
        rw [← hcl] at hv
        cases hv
        obtain ⟨vv,hcs,hbv,h32⟩ := hallU.2 j hlt (by omega)
        have hx2 := hg2 j (by omega)
        have hx3 := hg1 j (by omega)
        rw [hcs] at hx2
        have hfv := hbv.flat
        have hcat : ((U.take (j + 1)).map fun u => (u.1,wholeS u.2)) = ((U.take j).map fun u => (u.1,wholeS u.2)) ++ [(U[j].1,wholeS U[j].2)] := by
          rw [List.take_succ_eq_append_getElem hlt]
          simp only [List.map_append,List.map_cons,List.map_nil]
        have hlen9 : ((U.take j).map fun u => (u.1,wholeS u.2)).length = j := by simp;omega
        have hnb : ∀ b,b < w7.heap.size ∨ b = w6.heap.size → ¬ ownB v b := fun b hb h => by
          have := hg.above h
          have := hg.below h
          omega
        have hK6 : Keeps (fun b => ok b ∧ b < w.heap.size) w5 w6 := fun b hb hk => by
          rw [hU6.keep b (by omega) (by omega),hE57.keep b hb id]
        generalize U[j].1 = K at *
        generalize U[j].2 = S at *
        have hE8 : Ext w6 (wr (w6.alloc (.cells #[.int .u32 0,.slice none 0 0] 66)) w6.heap.size 0 [.int .u32 K,vv]) := (Upd.alloc (Upd.refl _ _) _).wr _ _ (.inl (Nat.le_refl _))
        have hb8 : blk (wr (w6.alloc (.cells #[.int .u32 0,.slice none 0 0] 66)) w6.heap.size 0 [.int .u32 K,vv]) w6.heap.size = some (#[.int .u32 K,vv],66,(0,0)) := by simp (maxSteps:=1000000)(disch:=(first|omega|(simp only [qI,qJ,qK]<;>omega)|exact qL _)) only [go_sem,↓reduceIte,n0,reduceCtorEq,n1,n2,n3,n4,n5,i0,i1,i2,i3,i4,i5,i6,i7]
        have hz8 : (wr (w6.alloc (.cells #[.int .u32 0,.slice none 0 0] 66)) w6.heap.size 0 [.int .u32 K,vv]).heap.size = w6.heap.size + 1 := by simp only [size_wr,World.size_alloc]
        repeat ((first | refine qA rfl ?_|refine qB ?_|refine qC rfl ?_|refine qD ?_|refine qE ?_|refine qF ?_|refine qG ?_|refine qH ?_);try simp (maxSteps:=1000000)(disch:=(first|omega|(simp only [qI,qJ,qK]<;>omega)|exact qL _)) only [go_sem,↓reduceIte,n0,reduceCtorEq,n1,n2,n3,n4,n5,i0,i1,i2,i3,i4,i5,i6,i7,h37,h36,h35,hgb,hx2,hx3.1,hfv,cellsAt_two,Int.toNat_natCast])
        generalize (wr (w6.alloc (.cells #[.int .u32 0,.slice none 0 0] 66)) w6.heap.size 0 [.int .u32 K,vv]) = w8' at *
        have hbt8 := hE8.blk_some hbt id
        refine W.drawR (.take 0 (.take 1 (.take 2 (.take 3 (.take 4 (.take 5 (.only 6 (.only 7 (.only 8 (.only 9 (.take 10 (.last 11)))))))))))) (ownB v) mixed (by kernel_rfl) ?_
        simp (maxSteps:=1000000)(disch:=(first|omega|(simp only [qI,qJ,qK]<;>omega)|exact qL _ | (refine hnb _ ?_;first | omega | (simp only [World.size_alloc,size_wr,size_drew] <;> omega)))) only [go_sem,↓reduceIte,n0,reduceCtorEq,n1,n2,n3,n4,n5,i0,i1,i2,i3,i4,i5,i6,i7,h7,hbt8,hb8,hfv]
        have hE8d : Ext w8' w8'.drew := (Upd.refl _ _).drew
        have hE68 : Ext w6 w8'.drew := hE8.trans hE8d
        have hzd : w8'.drew.heap.size = w8'.heap.size := size_drew _
        refine (whole_fn (ok := fun b => ok b ∧ b < w.heap.size) S vv w8'.drew ((hbv.keep hK6).keep (hE68.keeps _))).mono ?_
        rintro vv8 w8 ⟨hbv8,hw8⟩
        subst hw8
        obtain ⟨b8',c8',rfl,_⟩ := hbv8.shape
        have hg8 := hg.ext hE68
        have hMd : Upd (ownB v) w8'.drew (w8'.drew.alloc (.cells #[.int .u32 K,.slice b8' (wholeS S).length c8'] 66)) := (Upd.refl _ _).alloc _
        refine ⟨Upd.refl _ _,?_⟩
        simp (maxSteps:=1000000)(disch:=(first|omega|(simp only [qI,qJ,qK]<;>omega)|exact qL _)) only [go_sem,↓reduceIte,n0,reduceCtorEq,n1,n2,n3,n4,n5,i0,i1,i2,i3,i4,i5,i6,i7]
        refine ⟨Upd.refl _ _,hMd,?_⟩
        have hx9 : TagC (fun b => (fun b => okN ok w.heap.size b ∧ b ≠ w.heap.size + 1 ∧ b ≠ w.heap.size + 2) b ∧ b ≠ w.heap.size + 2 ∧ ¬ ownB v b) (w8'.drew.alloc (.cells #[.int .u32 K,(.slice b8' (wholeS S).length c8')] 66)) (K,wholeS S) [.int .u32 K,(.slice b8' (wholeS S).length c8')] :=
          ⟨(.slice b8' (wholeS S).length c8'),rfl,(hbv8.keep (Ext.keeps (Upd.alloc (Upd.refl _ _) _) _)).weaken fun b _ hk => ⟨⟨.inl hk.1,by omega,by omega⟩,by omega,fun h => by have := hg.above h;omega⟩,h32⟩
        have hg9 := hg8.ext (Upd.alloc (Upd.refl _ _) (.cells #[.int .u32 K,(.slice b8' (wholeS S).length c8')] 66))
        obtain ⟨css9,hown9,hall9⟩ := hg9.ex
        have hcl9 := hall9.1
        refine wp_append ap_24_24 (m := 1) (news := [.int .u32 K,(.slice b8' (wholeS S).length c8')]) (n := css9.length) (cs := css9.flatten) (v := v) ?_ rfl hown9.1 hall9.flat_cells (Src.blk (fr := (0,0)) (T := 66) (blk_alloc_new (by first | rfl | omega)) rfl (flat_tag hx9).1) ?_ ?_ ?_
        · simp (maxSteps:=1000000)(disch:=(first|omega|(simp only [qI,qJ,qK]<;>omega)|exact qL _)) only [go_sem,↓reduceIte,n0,reduceCtorEq,n1,n2,n3,n4,n5,i0,i1,i2,i3,i4,i5,i6,i7]
        · simp only [World.size_alloc];omega
        · omega
        intro v' w10 ho hu hfr
        have hg10 := GrowU.snoc hown9 hall9 hx9 hu hfr ho
        have hz10 := hu.size
        simp only [World.size_alloc] at hz10
        obtain ⟨va,vc,hv',_⟩ := ho.shape
        subst hv'
        have htb : ¬ ownB (.slice va (css9.length + 1) vc) (w.heap.size + 2) := fun h => by
          rcases hfr _ h with h | h
          · exact hnb _ (.inl (by omega)) h
          · simp only [World.size_alloc] at h;omega
        have hbt10 := (hMd.trans hu).blk_some (hE8d.blk_some hbt8 id) (hnb _ (by omega))
        simp (maxSteps:=1000000)(disch:=(first|omega|(simp only [qI,qJ,qK]<;>omega)|exact qL _)) only [go_sem,↓reduceIte,n0,reduceCtorEq,n1,n2,n3,n4,n5,i0,i1,i2,i3,i4,i5,i6,i7]
        refine ⟨hMd.trans hu,?_⟩
        simp (maxSteps:=1000000)(disch:=(first|omega|(simp only [qI,qJ,qK]<;>omega)|exact qL _)) only [go_sem,↓reduceIte,n0,reduceCtorEq,n1,n2,n3,n4,n5,i0,i1,i2,i3,i4,i5,i6,i7,h7,hbt10]
        repeat ((first | refine qA rfl ?_|refine qB ?_|refine qC rfl ?_|refine qD ?_|refine qE ?_|refine qF ?_|refine qG ?_|refine qH ?_);try simp (maxSteps:=1000000)(disch:=(first|omega|(simp only [qI,qJ,qK]<;>omega)|exact qL _)) only [go_sem,↓reduceIte,n0,reduceCtorEq,n1,n2,n3,n4,n5,i0,i1,i2,i3,i4,i5,i6,i7,h37])
        refine ⟨⟨j + 1,.slice va (css9.length + 1) vc,by omega,rfl,h36,h35,h6,h7,?_,?_,?_⟩,?_⟩
        · simp (maxSteps:=1000000)(disch:=(first|omega|(simp only [qI,qJ,qK]<;>omega)|exact qL _)) only [go_sem,↓reduceIte,n0,reduceCtorEq,n1,n2,n3,n4,n5,i0,i1,i2,i3,i4,i5,i6,i7,hbt10]
        · rw [hcat];exact hg10.upd ((Upd.refl _ _).wr _ _ (.inr rfl)) htb
        · refine Upd.wr ?_ _ _ (.inr rfl)
          exact hU6.more (((hE68.mono fun _ h => h.elim).trans hMd).trans hu) fun b hb h => by have := hg.above h;omega
        · simp only [RowKit.intOf];omega
      · have hjl : j = U.length := by omega
        subst hjl
        rw [List.take_length] at hg
        obtain ⟨va,vc,hv',_⟩ := hg.shape
        subst hv'
        have hb16 := hU6.blk_some hb17 (by omega)
        repeat ((first | refine qA rfl ?_|refine qB ?_|refine qC rfl ?_|refine qD ?_|refine qE ?_|refine qF ?_|refine qG ?_|refine qH ?_);try simp (maxSteps:=1000000)(disch:=(first|omega|(simp only [qI,qJ,qK]<;>omega)|exact qL _)) only [go_sem,↓reduceIte,n0,reduceCtorEq,n1,n2,n3,n4,n5,i0,i1,i2,i3,i4,i5,i6,i7,h37,h36,h6,h7,hbt,hb16,cellsAt_five])
        have hE06 : Ext w w6 := hE07.more hU6 fun b hb h => by omega
        refine ⟨⟨_,rfl,?_⟩,hE06.wr _ _ (.inl (by omega))⟩
        have hTL6 := hTL7.keep (hU6.keeps fun b _ hk e => by omega)
        have hTU6 := hg.tags (ok' := (fun b => okN ok w.heap.size b ∧ b ≠ w.heap.size + 1 ∧ b ≠ w.heap.size + 2)) (fun _ _ h => h) (fun b hb => ⟨.inr (by omega),by omega,by omega⟩)
        have hU9 : Upd (fun b => b = w.heap.size + 1) w6 (wr w6 (w.heap.size + 1) 0 [.int .i64 0,.slice none 0 0,.bool false,.slice al XL.length cl,.slice va (U.map fun u => (u.1,wholeS u.2)).length vc]) := (Upd.refl _ _).wr _ _ (.inr rfl)
        exact TreeC.intro rfl (bytes_nil _ _) ((hTL6.keep (hU9.keeps fun b _ hk e => hk.1.2.1 e)).weaken fun b _ hk => hk.1.1) ((hTU6.keep (hU9.keeps fun b _ hk e => hk.2.1 e)).weaken fun b _ hk => hk.1)

theorem fit_ok : ∀ d,FitOk d (fitS (d + 1)) := by
  intro d
  have key : ∀ (ft : List Fld → Int → Tree → Tree) (d : Nat) (hfit : ∀ (fs : List Fld),okF d fs = true → ∀ f ∈ fs,∀ (ver : Int) (ok : Blocks) (x : Tree) (cf cx : List Value) (w' : World),FldC ok w' f cf → TreeC ok w' x cx → Small 4611686018427387903 x →
      Fn Tryz.prog 21 #[.agg cf.toArray,.int .i64 ver,.agg cx.toArray] w' fun r w'' => TreeR ok w' w'' r (fittedS ft f ver x) ∧ Ext w' w''),FitOk d fun fs v t => .mk 0 [] false (fs.zipIdx.map fun (f,i) => fittedS ft f v (t.at i)) (fitU fs t.u) := by
    intro ft d hfit ok fs ver t vs ct w h1 h2 h3 h4
    have := Fit_fn (d := d) (ft := ft) fs ok ver t vs ct w h1 (okF_len h2) (okF_tag h2) h3 h4 (fun f hf ok x cf cx w' g1 g2 g3 => hfit fs h2 f hf ver ok x cf cx w' g1 g2 g3)
    have e : fitL ft fs ver t fs.length = fs.zipIdx.map fun (f,i) => fittedS ft f ver (t.at i) := by
      rw [fitL,List.take_length]
    rw [e] at this
    exact this
  induction d with
  | zero =>
    refine key (fitS 0) 0 ?_
    intro fs h f hf
    have hnil : fs = [] := by simpa [okF] using h
    subst hnil
    simp at hf
  | succ d ih =>
    refine key (fitS (d + 1)) (d + 1) ?_
    intro fs h f hf ver ok x cf cx w' g1 g2 g3
    obtain ⟨e,he,hB,hok⟩ := okF_el h hf
    cases he
    exact fitted_fn ih f ver x cf cx w' g1 hok hB g2 g3

theorem given_step (t : Tree) (hl2 : t.l.length ≤ 32767) (hl3 : t.u.length ≤ 32767)
    (hrec : ∀ i (h : i < t.l.length),∀ (ok : Blocks) (ct : List Value) (w : World),TreeC ok w t.l[i] ct → Fn Tryz.prog 10 #[.agg ct.toArray] w fun r w' => TreeR ok w w' r t.l[i] ∧ Ext w w')
    (ok : Blocks) (ct : List Value) (w : World) (ht : TreeC ok w t ct) :
    Fn Tryz.prog 10 #[.agg ct.toArray] w fun r w' => TreeR ok w w' r t ∧ Ext w w' := by
  obtain ⟨vS,vL,vU,rfl,hn,hS,hL,hU⟩ := ht.inv
  obtain ⟨bS,cS,rfl,hcS⟩ := hS.shape
  obtain ⟨bl,cl,rfl,hcl⟩ := SlR.shape hL
  obtain ⟨bu,cu,rfl,hcu⟩ := SlR.shape hU
  have hE : Ext w (wr (((w.alloc (.cells #[.int .i64 t.n,.slice bS t.s.length cS,.bool t.null,.slice bl t.l.length cl,.slice bu t.u.length cu] 26)).alloc (.cells #[.int .i64 0,.slice none 0 0,.bool false,.slice none 0 0,.slice none 0 0] 39)).alloc (.cells #[.int .i64 0,.slice none 0 0,.bool false,.slice none 0 0,.slice none 0 0] 39)) (w.heap.size + 2) 0 [.int .i64 t.n,.slice bS t.s.length cS,.bool t.null,.slice none 0 0,.slice none 0 0]) := (((Upd.refl _ _).alloc _).alloc _).alloc _ |>.wr _ _ (.inl (by omega))
  refine fn_of_W Tryz.func10 rfl Tryz.results10 Tryz.ntmps10 rfl ?_
  repeat ((first | refine qA rfl ?_|refine qB ?_|refine qC rfl ?_|refine qD ?_|refine qE ?_|refine qF ?_|refine qG ?_|refine qH ?_);try simp (maxSteps:=1000000)(disch:=(first|omega|(simp only [qI,qJ,qK]<;>omega)|exact qL _)) only [go_sem,↓reduceIte,n0,reduceCtorEq,n1,n2,n3,n4,n5,i0,i1,i2,i3,i4,i5,i6,i7])
  have hb0 : blk (wr (((w.alloc (.cells #[.int .i64 t.n,.slice bS t.s.length cS,.bool t.null,.slice bl t.l.length cl,.slice bu t.u.length cu] 26)).alloc (.cells #[.int .i64 0,.slice none 0 0,.bool false,.slice none 0 0,.slice none 0 0] 39)).alloc (.cells #[.int .i64 0,.slice none 0 0,.bool false,.slice none 0 0,.slice none 0 0] 39)) (w.heap.size + 2) 0 [.int .i64 t.n,.slice bS t.s.length cS,.bool t.null,.slice none 0 0,.slice none 0 0]) w.heap.size = some (#[.int .i64 t.n,.slice bS t.s.length cS,.bool t.null,.slice bl t.l.length cl,.slice bu t.u.length cu],26,(0,0)) := by simp (maxSteps:=1000000)(disch:=(first|omega|(simp only [qI,qJ,qK]<;>omega)|exact qL _)) only [go_sem,↓reduceIte,n0,reduceCtorEq,n1,n2,n3,n4,n5,i0,i1,i2,i3,i4,i5,i6,i7]
  have hb1 : blk (wr (((w.alloc (.cells #[.int .i64 t.n,.slice bS t.s.length cS,.bool t.null,.slice bl t.l.length cl,.slice bu t.u.length cu] 26)).alloc (.cells #[.int .i64 0,.slice none 0 0,.bool false,.slice none 0 0,.slice none 0 0] 39)).alloc (.cells #[.int .i64 0,.slice none 0 0,.bool false,.slice none 0 0,.slice none 0 0] 39)) (w.heap.size + 2) 0 [.int .i64 t.n,.slice bS t.s.length cS,.bool t.null,.slice none 0 0,.slice none 0 0]) (w.heap.size + 1) = some (#[.int .i64 0,.slice none 0 0,.bool false,.slice none 0 0,.slice none 0 0],39,(0,0)) := by simp (maxSteps:=1000000)(disch:=(first|omega|(simp only [qI,qJ,qK]<;>omega)|exact qL _)) only [go_sem,↓reduceIte,n0,reduceCtorEq,n1,n2,n3,n4,n5,i0,i1,i2,i3,i4,i5,i6,i7]
  have hb2 : blk (wr (((w.alloc (.cells #[.int .i64 t.n,.slice bS t.s.length cS,.bool t.null,.slice bl t.l.length cl,.slice bu t.u.length cu] 26)).alloc (.cells #[.int .i64 0,.slice none 0 0,.bool false,.slice none 0 0,.slice none 0 0] 39)).alloc (.cells #[.int .i64 0,.slice none 0 0,.bool false,.slice none 0 0,.slice none 0 0] 39)) (w.heap.size + 2) 0 [.int .i64 t.n,.slice bS t.s.length cS,.bool t.null,.slice none 0 0,.slice none 0 0]) (w.heap.size + 2) = some (#[.int .i64 t.n,.slice bS t.s.length cS,.bool t.null,.slice none 0 0,.slice none 0 0],39,(0,0)) := by simp (maxSteps:=1000000)(disch:=(first|omega|(simp only [qI,qJ,qK]<;>omega)|exact qL _)) only [go_sem,↓reduceIte,n0,reduceCtorEq,n1,n2,n3,n4,n5,i0,i1,i2,i3,i4,i5,i6,i7]
  have hz2 : (wr (((w.alloc (.cells #[.int .i64 t.n,.slice bS t.s.length cS,.bool t.null,.slice bl t.l.length cl,.slice bu t.u.length cu] 26)).alloc (.cells #[.int .i64 0,.slice none 0 0,.bool false,.slice none 0 0,.slice none 0 0] 39)).alloc (.cells #[.int .i64 0,.slice none 0 0,.bool false,.slice none 0 0,.slice none 0 0] 39)) (w.heap.size + 2) 0 [.int .i64 t.n,.slice bS t.s.length cS,.bool t.null,.slice none 0 0,.slice none 0 0]).heap.size = w.heap.size + 3 := by simp only [size_wr,World.size_alloc]
  generalize (wr (((w.alloc (.cells #[.int .i64 t.n,.slice bS t.s.length cS,.bool t.null,.slice bl t.l.length cl,.slice bu t.u.length cu] 26)).alloc (.cells #[.int .i64 0,.slice none 0 0,.bool false,.slice none 0 0,.slice none 0 0] 39)).alloc (.cells #[.int .i64 0,.slice none 0 0,.bool false,.slice none 0 0,.slice none 0 0] 39)) (w.heap.size + 2) 0 [.int .i64 t.n,.slice bS t.s.length cS,.bool t.null,.slice none 0 0,.slice none 0 0]) = w2 at *
  refine W.exitJ 0 (fun ρ w' => ∃ v,ρ 1 = .pointer (some ⟨w.heap.size,0,none⟩) ∧ ρ 2 = .pointer (some ⟨w.heap.size + 1,0,none⟩) ∧ ρ 3 = .pointer (some ⟨w.heap.size + 2,0,none⟩) ∧
      blk w' (w.heap.size + 2) = some (#[.int .i64 t.n,.slice bS t.s.length cS,.bool t.null,v,.slice none 0 0],39,(0,0)) ∧ GrowT (fun b => okN ok w.heap.size b ∧ b ≠ w.heap.size + 1 ∧ b ≠ w.heap.size + 2) w2.heap.size (w.heap.size + 2) w' 39 v t.l ∧ Upd (fun b => b = w.heap.size + 2) w2 w')
    (W.loop (fun ρ w' => ∃ (j : Nat) (v : Value),j ≤ t.l.length ∧ ρ 18 = .int .i64 j ∧ ρ 17 = .int .i64 t.l.length ∧ ρ 16 = .slice bl t.l.length cl ∧ ρ 1 = .pointer (some ⟨w.heap.size,0,none⟩) ∧ ρ 2 = .pointer (some ⟨w.heap.size + 1,0,none⟩) ∧ ρ 3 = .pointer (some ⟨w.heap.size + 2,0,none⟩) ∧
      blk w' (w.heap.size + 2) = some (#[.int .i64 t.n,.slice bS t.s.length cS,.bool t.null,v,.slice none 0 0],39,(0,0)) ∧ GrowT (fun b => okN ok w.heap.size b ∧ b ≠ w.heap.size + 1 ∧ b ≠ w.heap.size + 2) w2.heap.size (w.heap.size + 2) w' 39 v (t.l.take j) ∧ Upd (fun b => b = w.heap.size + 2) w2 w')
    (fun ρ _ => t.l.length - (RowKit.intOf (ρ 18)).toNat) ?_ ?_) ?_
  · refine ⟨0,_,Nat.zero_le _,?_,?_,?_,?_,?_,?_,hb2,GrowT.nil _ _ _ _ _,Upd.refl _ _⟩ <;> simp (maxSteps:=1000000)(disch:=(first|omega|(simp only [qI,qJ,qK]<;>omega)|exact qL _)) only [go_sem,↓reduceIte,n0,reduceCtorEq,n1,n2,n3,n4,n5,i0,i1,i2,i3,i4,i5,i6,i7]
    all_goals rfl
  · rintro ρ w6 ⟨j,v,hj,h18,h17,h16,h1,h2,h3,hbt,hg,hU6⟩
    have hz6 := hU6.size
    have hE06 : Ext w w6 := hE.more hU6 fun b hb h => by omega
    by_cases hlt : j < t.l.length
    · obtain ⟨_,b,o,x,vS',vL',vU',hb,hokb,hx,hblt,hxs,hxe,g1,g2,g3,hc⟩ := TreesV.get hL hlt
      subst hb
      have hx6 : blk w6 b = some x := hE06.blk_some hx id
      have hcat : t.l.take (j + 1) = t.l.take j ++ [t.l[j]] := List.take_succ_eq_append_getElem hlt
      have hlen9 : (t.l.take j).length = j := by simp;omega
      have hnb : ∀ b,b < w2.heap.size ∨ b = w6.heap.size → ¬ ownB v b := fun b hb h => by
        have := hg.above h
        have := hg.below h
        omega
      have hE7 : Ext w6 (wr (w6.alloc (.cells #[.int .i64 0,.slice none 0 0,.bool false,.slice none 0 0,.slice none 0 0] 26)) w6.heap.size 0 [.int .i64 t.l[j].n,vS',.bool t.l[j].null,vL',vU']) := (Upd.alloc (Upd.refl _ _) _).wr _ _ (.inl (Nat.le_refl _))
      have hb7 : blk (wr (w6.alloc (.cells #[.int .i64 0,.slice none 0 0,.bool false,.slice none 0 0,.slice none 0 0] 26)) w6.heap.size 0 [.int .i64 t.l[j].n,vS',.bool t.l[j].null,vL',vU']) w6.heap.size = some (#[.int .i64 t.l[j].n,vS',.bool t.l[j].null,vL',vU'],26,(0,0)) := by simp (maxSteps:=1000000)(disch:=(first|omega|(simp only [qI,qJ,qK]<;>omega)|exact qL _)) only [go_sem,↓reduceIte,n0,reduceCtorEq,n1,n2,n3,n4,n5,i0,i1,i2,i3,i4,i5,i6,i7]
      have hz7 : (wr (w6.alloc (.cells #[.int .i64 0,.slice none 0 0,.bool false,.slice none 0 0,.slice none 0 0] 26)) w6.heap.size 0 [.int .i64 t.l[j].n,vS',.bool t.l[j].null,vL',vU']).heap.size = w6.heap.size + 1 := by simp only [size_wr,World.size_alloc]
      have hrecj := hrec j hlt (fun b => ok b ∧ b < w.heap.size) [.int .i64 t.l[j].n,vS',.bool t.l[j].null,vL',vU']
      repeat ((first | refine qA rfl ?_|refine qB ?_|refine qC rfl ?_|refine qD ?_|refine qE ?_|refine qF ?_|refine qG ?_|refine qH ?_);try simp (maxSteps:=1000000)(disch:=(first|omega|(simp only [qI,qJ,qK]<;>omega)|exact qL _)) only [go_sem,↓reduceIte,n0,reduceCtorEq,n1,n2,n3,n4,n5,i0,i1,i2,i3,i4,i5,i6,i7,h18,h17,h16,hx6,hxe,g1,g2,g3,cellsAt_five,Int.toNat_natCast])
      generalize (wr (w6.alloc (.cells #[.int .i64 0,.slice none 0 0,.bool false,.slice none 0 0,.slice none 0 0] 26)) w6.heap.size 0 [.int .i64 t.l[j].n,vS',.bool t.l[j].null,vL',vU']) = w7 at *
      have hbt7 := hE7.blk_some hbt id
      refine W.drawR (.take 0 (.take 1 (.take 2 (.only 3 (.only 4 (.only 5 (.take 6 (.last 7)))))))) (ownB v) mixed (by kernel_rfl) ?_
      simp (maxSteps:=1000000)(disch:=(first|omega|(simp only [qI,qJ,qK]<;>omega)|exact qL _ | (refine hnb _ ?_;first | omega | (simp only [World.size_alloc,size_wr,size_drew] <;> omega)))) only [go_sem,↓reduceIte,n0,reduceCtorEq,n1,n2,n3,n4,n5,i0,i1,i2,i3,i4,i5,i6,i7,h3,hbt7,hb7,cellsAt_five,cellsAt_eight]
      have hE7d : Ext w7 w7.drew := (Upd.refl _ _).drew
      have hE07d : Ext w w7.drew := (hE06.trans hE7).trans hE7d
      have hzd : w7.drew.heap.size = w7.heap.size := size_drew _
      refine (hrecj w7.drew ((hc.weaken fun b h1 h2 => ⟨h2,h1⟩).keep (hE07d.keeps _))).mono ?_
      rintro v8 w8 ⟨⟨c8,rfl,hc8⟩,hE8⟩
      generalize t.l[j] = T at *
      obtain ⟨vS8,vL8,vU8,rfl,hn8,hS8,hL8,hU8⟩ := hc8.inv
      have k1 := hS8.flat
      have k2 := SlR.flat hL8
      have k3 := SlR.flat hU8
      have hz8 := hE8.size
      simp only [size_drew] at hz8
      have hM8 : Upd (ownB v) w7.drew w8 := hE8.mono (fun _ h => h.elim)
      have hE68 : Ext w6 w8 := (hE7.trans hE7d).trans hE8
      have hE9 : Ext w8 (w8.alloc (.cells #[.int .i64 T.n,vS8,.bool T.null,vL8,vU8] 39)) := Upd.alloc (Upd.refl _ _) _
      have hM9 : Upd (ownB v) w7.drew (w8.alloc (.cells #[.int .i64 T.n,vS8,.bool T.null,vL8,vU8] 39)) := hM8.alloc _
      refine ⟨hM8,?_⟩
      simp (maxSteps:=1000000)(disch:=(first|omega|(simp only [qI,qJ,qK]<;>omega)|exact qL _)) only [go_sem,↓reduceIte,n0,reduceCtorEq,n1,n2,n3,n4,n5,i0,i1,i2,i3,i4,i5,i6,i7,k1,k2,k3]
      refine ⟨hM9,?_⟩
      have hg9 := (hg.ext hE68).ext hE9
      have hx9 : TreeC (fun b => (fun b => okN ok w.heap.size b ∧ b ≠ w.heap.size + 1 ∧ b ≠ w.heap.size + 2) b ∧ b ≠ w.heap.size + 2 ∧ ¬ ownB v b) (w8.alloc (.cells #[.int .i64 T.n,vS8,.bool T.null,vL8,vU8] 39)) T [.int .i64 T.n,vS8,.bool T.null,vL8,vU8] :=
        (hc8.keep (hE9.keeps _)).weaken fun b _ hk => by
          rcases hk with ⟨h1,h2⟩ | h2
          · exact ⟨⟨.inl h1,by omega,by omega⟩,by omega,fun h => by have := hg.above h;omega⟩
          · exact ⟨⟨.inr (by omega),by omega,by omega⟩,by omega,fun h => by have := hg.below h;omega⟩
      obtain ⟨css,hown,hall⟩ := hg9.ex
      have hcl9 := hall.1
      refine wp_append ap_36_36 (m := 1) (news := [.int .i64 T.n,vS8,.bool T.null,vL8,vU8]) (n := css.length) (cs := css.flatten) (v := v) ?_ rfl hown.1 (all2_flat_tree hall) (Src.blk (fr := (0,0)) (T := 39) (blk_alloc_new rfl) rfl (flat_tree hx9).1) ?_ ?_ ?_
      · simp (maxSteps:=1000000)(disch:=(first|omega|(simp only [qI,qJ,qK]<;>omega)|exact qL _)) only [go_sem,↓reduceIte,n0,reduceCtorEq,n1,n2,n3,n4,n5,i0,i1,i2,i3,i4,i5,i6,i7]
      · simp only [World.size_alloc];omega
      · omega
      intro v' w10 ho hu hfr
      have hg10 := GrowT.snoc hown hall hx9 hu hfr ho
      have hz10 := hu.size
      simp only [World.size_alloc] at hz10
      obtain ⟨va,vc,hv',_⟩ := ho.shape
      subst hv'
      have hbt10 := (hM9.trans hu).blk_some (hE7d.blk_some hbt7 id) (hnb _ (by omega))
      have htb : ¬ ownB (.slice va (css.length + 1) vc) (w.heap.size + 2) := fun h => by
        rcases hfr _ h with h | h
        · exact hnb _ (.inl (by omega)) h
        · simp only [World.size_alloc] at h;omega
      simp (maxSteps:=1000000)(disch:=(first|omega|(simp only [qI,qJ,qK]<;>omega)|exact qL _)) only [go_sem,↓reduceIte,n0,reduceCtorEq,n1,n2,n3,n4,n5,i0,i1,i2,i3,i4,i5,i6,i7]
      refine ⟨hM9.trans hu,?_⟩
      simp (maxSteps:=1000000)(disch:=(first|omega|(simp only [qI,qJ,qK]<;>omega)|exact qL _)) only [go_sem,↓reduceIte,n0,reduceCtorEq,n1,n2,n3,n4,n5,i0,i1,i2,i3,i4,i5,i6,i7,h3,hbt10]
      repeat ((first | refine qA rfl ?_|refine qB ?_|refine qC rfl ?_|refine qD ?_|refine qE ?_|refine qF ?_|refine qG ?_|refine qH ?_);try simp (maxSteps:=1000000)(disch:=(first|omega|(simp only [qI,qJ,qK]<;>omega)|exact qL _)) only [go_sem,↓reduceIte,n0,reduceCtorEq,n1,n2,n3,n4,n5,i0,i1,i2,i3,i4,i5,i6,i7,h18])
      refine ⟨⟨j + 1,.slice va (css.length + 1) vc,by omega,rfl,h17,h16,h1,h2,h3,?_,?_,?_⟩,?_⟩
      · simp (maxSteps:=1000000)(disch:=(first|omega|(simp only [qI,qJ,qK]<;>omega)|exact qL _)) only [go_sem,↓reduceIte,n0,reduceCtorEq,n1,n2,n3,n4,n5,i0,i1,i2,i3,i4,i5,i6,i7,hbt10]
      · rw [hcat];exact hg10.upd ((Upd.refl _ _).wr _ _ (.inr rfl)) htb
      · refine Upd.wr ?_ _ _ (.inr rfl)
        exact hU6.more (((hE68.trans hE9).mono fun _ h => h.elim).trans hu) fun b hb h => by have := hg.above h;omega
      · simp only [RowKit.intOf];omega
    · have hjl : j = t.l.length := by omega
      subst hjl
      rw [List.take_length] at hg
      repeat ((first | refine qA rfl ?_|refine qB ?_|refine qC rfl ?_|refine qD ?_|refine qE ?_|refine qF ?_|refine qG ?_|refine qH ?_);try simp (maxSteps:=1000000)(disch:=(first|omega|(simp only [qI,qJ,qK]<;>omega)|exact qL _)) only [go_sem,↓reduceIte,n0,reduceCtorEq,n1,n2,n3,n4,n5,i0,i1,i2,i3,i4,i5,i6,i7,h18,h17])
      exact ⟨v,h1,h2,h3,hbt,hg,hU6⟩
  · rintro ρ w5 ⟨vl,h1,h2,h3,hbt,hg,hU5⟩
    have hz5 := hU5.size
    have hE05 : Ext w w5 := hE.more hU5 fun b hb h => by omega
    have hb05 := hU5.blk_some hb0 (by omega)
    have hb15 := hU5.blk_some hb1 (by omega)
    obtain ⟨al,cl',hvl,hcl'⟩ := hg.shape
    subst hvl
    have hTL : TreesV (fun b => (fun b => okN ok w.heap.size b ∧ b ≠ w.heap.size + 1 ∧ b ≠ w.heap.size + 2) b ∧ b < w5.heap.size) w5 (.slice al t.l.length cl') t.l :=
      (hg.trees (ok' := (fun b => okN ok w.heap.size b ∧ b ≠ w.heap.size + 1 ∧ b ≠ w.heap.size + 2)) (fun _ _ h => h) (fun b hb => ⟨.inr (by omega),by omega,by omega⟩)).weaken fun b h1 h2 => ⟨h2,h1⟩
    simp (maxSteps:=1000000)(disch:=(first|omega|(simp only [qI,qJ,qK]<;>omega)|exact qL _)) only [go_sem,↓reduceIte,n0,reduceCtorEq,n1,n2,n3,n4,n5,i0,i1,i2,i3,i4,i5,i6,i7]
    repeat ((first | refine qA rfl ?_|refine qB ?_|refine qC rfl ?_|refine qD ?_|refine qE ?_|refine qF ?_|refine qG ?_|refine qH ?_);try simp (maxSteps:=1000000)(disch:=(first|omega|(simp only [qI,qJ,qK]<;>omega)|exact qL _)) only [go_sem,↓reduceIte,n0,reduceCtorEq,n1,n2,n3,n4,n5,i0,i1,i2,i3,i4,i5,i6,i7,h1,hb05])
    refine W.loop (fun ρ w' => ∃ (j : Nat) (v : Value),j ≤ t.u.length ∧ ρ 33 = .int .i64 j ∧ ρ 32 = .int .i64 t.u.length ∧ ρ 31 = .slice bu t.u.length cu ∧ ρ 2 = .pointer (some ⟨w.heap.size + 1,0,none⟩) ∧ ρ 3 = .pointer (some ⟨w.heap.size + 2,0,none⟩) ∧
        blk w' (w.heap.size + 2) = some (#[.int .i64 t.n,.slice bS t.s.length cS,.bool t.null,.slice al t.l.length cl',v],39,(0,0)) ∧ GrowU (fun b => okN ok w.heap.size b ∧ b ≠ w.heap.size + 1 ∧ b ≠ w.heap.size + 2) w5.heap.size (w.heap.size + 2) w' 67 v (t.u.take j) ∧ Upd (fun b => b = w.heap.size + 2) w5 w')
      (fun ρ _ => t.u.length - (RowKit.intOf (ρ 33)).toNat) ?_ ?_
    · refine ⟨0,_,Nat.zero_le _,?_,?_,?_,?_,?_,hbt,GrowU.nil _ _ _ _ _,Upd.refl _ _⟩ <;> simp (maxSteps:=1000000)(disch:=(first|omega|(simp only [qI,qJ,qK]<;>omega)|exact qL _)) only [go_sem,↓reduceIte,n0,reduceCtorEq,n1,n2,n3,n4,n5,i0,i1,i2,i3,i4,i5,i6,i7,h2,h3]
      all_goals rfl
    · clear h1 h2 h3 hg hbt
      rintro ρ w6 ⟨j,v,hj,h33,h32',h31,h2,h3,hbt,hg,hU6⟩
      have hz6 := hU6.size
      have hE06 : Ext w w6 := hE05.more hU6 fun b hb h => by omega
      by_cases hlt : j < t.u.length
      · obtain ⟨_,b,o,x,vv,hb,hokb,hx,hblt,hxs,hxe,_,_,hfv,hbv,h32⟩ := TagsV.get hU hlt
        subst hb
        have hx6 : blk w6 b = some x := hE06.blk_some hx id
        have hcat : t.u.take (j + 1) = t.u.take j ++ [(t.u[j].1,t.u[j].2)] := List.take_succ_eq_append_getElem hlt
        have hlen9 : (t.u.take j).length = j := by simp;omega
        have hnb : ∀ b,b < w5.heap.size ∨ b = w6.heap.size → ¬ ownB v b := fun b hb h => by
          have := hg.above h
          have := hg.below h
          omega
        generalize t.u[j].1 = K at *
        generalize t.u[j].2 = S at *
        obtain ⟨b8',c8',rfl,_⟩ := hbv.shape
        have hE8 : Ext w6 (wr (w6.alloc (.cells #[.int .u32 0,.slice none 0 0] 66)) w6.heap.size 0 [.int .u32 K,.slice b8' S.length c8']) := (Upd.alloc (Upd.refl _ _) _).wr _ _ (.inl (Nat.le_refl _))
        have hb8 : blk (wr (w6.alloc (.cells #[.int .u32 0,.slice none 0 0] 66)) w6.heap.size 0 [.int .u32 K,.slice b8' S.length c8']) w6.heap.size = some (#[.int .u32 K,.slice b8' S.length c8'],66,(0,0)) := by simp (maxSteps:=1000000)(disch:=(first|omega|(simp only [qI,qJ,qK]<;>omega)|exact qL _)) only [go_sem,↓reduceIte,n0,reduceCtorEq,n1,n2,n3,n4,n5,i0,i1,i2,i3,i4,i5,i6,i7]
        have hz8 : (wr (w6.alloc (.cells #[.int .u32 0,.slice none 0 0] 66)) w6.heap.size 0 [.int .u32 K,.slice b8' S.length c8']).heap.size = w6.heap.size + 1 := by simp only [size_wr,World.size_alloc]
        repeat ((first | refine qA rfl ?_|refine qB ?_|refine qC rfl ?_|refine qD ?_|refine qE ?_|refine qF ?_|refine qG ?_|refine qH ?_);try simp (maxSteps:=1000000)(disch:=(first|omega|(simp only [qI,qJ,qK]<;>omega)|exact qL _)) only [go_sem,↓reduceIte,n0,reduceCtorEq,n1,n2,n3,n4,n5,i0,i1,i2,i3,i4,i5,i6,i7,h33,h32',h31,h3,hx6,hxe,hbt,cellsAt_two,Int.toNat_natCast])
        generalize (wr (w6.alloc (.cells #[.int .u32 0,.slice none 0 0] 66)) w6.heap.size 0 [.int .u32 K,.slice b8' S.length c8']) = w8' at *
        have hbt8 := hE8.blk_some hbt id
        have hbv8 := (hbv.weaken (ok' := fun b => ok b ∧ b < w.heap.size) fun b h1 h2 => ⟨h2,h1⟩).keep (Ext.keeps (hE06.trans hE8) _)
        have hg8 := hg.ext hE8
        have hMd : Upd (ownB v) w8' (w8'.alloc (.cells #[.int .u32 K,.slice b8' S.length c8'] 67)) := (Upd.refl _ _).alloc _
        have hx9 : TagC (fun b => (fun b => okN ok w.heap.size b ∧ b ≠ w.heap.size + 1 ∧ b ≠ w.heap.size + 2) b ∧ b ≠ w.heap.size + 2 ∧ ¬ ownB v b) (w8'.alloc (.cells #[.int .u32 K,(.slice b8' S.length c8')] 67)) (K,S) [.int .u32 K,(.slice b8' S.length c8')] :=
          ⟨(.slice b8' S.length c8'),rfl,(hbv8.keep (Ext.keeps (Upd.alloc (Upd.refl _ _) _) _)).weaken fun b _ hk => ⟨⟨.inl hk.1,by omega,by omega⟩,by omega,fun h => by have := hg.above h;omega⟩,h32⟩
        have hg9 := hg8.ext (Upd.alloc (Upd.refl _ _) (.cells #[.int .u32 K,(.slice b8' S.length c8')] 67))
        obtain ⟨css9,hown9,hall9⟩ := hg9.ex
        have hcl9 := hall9.1
        refine wp_append ap_37_37 (m := 1) (news := [.int .u32 K,(.slice b8' S.length c8')]) (n := css9.length) (cs := css9.flatten) (v := v) ?_ rfl hown9.1 hall9.flat_cells (Src.blk (fr := (0,0)) (T := 67) (blk_alloc_new (by first | rfl | omega)) rfl (flat_tag hx9).1) ?_ ?_ ?_
        · simp (maxSteps:=1000000)(disch:=(first|omega|(simp only [qI,qJ,qK]<;>omega)|exact qL _)) only [go_sem,↓reduceIte,n0,reduceCtorEq,n1,n2,n3,n4,n5,i0,i1,i2,i3,i4,i5,i6,i7]
        · simp only [World.size_alloc];omega
        · omega
        intro v' w10 ho hu hfr
        have hg10 := GrowU.snoc hown9 hall9 hx9 hu hfr ho
        have hz10 := hu.size
        simp only [World.size_alloc] at hz10
        obtain ⟨va,vc,hv',_⟩ := ho.shape
        subst hv'
        have htb : ¬ ownB (.slice va (css9.length + 1) vc) (w.heap.size + 2) := fun h => by
          rcases hfr _ h with h | h
          · exact hnb _ (.inl (by omega)) h
          · simp only [World.size_alloc] at h;omega
        have hbt10 := (hMd.trans hu).blk_some hbt8 (hnb _ (by omega))
        simp (maxSteps:=1000000)(disch:=(first|omega|(simp only [qI,qJ,qK]<;>omega)|exact qL _)) only [go_sem,↓reduceIte,n0,reduceCtorEq,n1,n2,n3,n4,n5,i0,i1,i2,i3,i4,i5,i6,i7,h3,hbt10]
        repeat ((first | refine qA rfl ?_|refine qB ?_|refine qC rfl ?_|refine qD ?_|refine qE ?_|refine qF ?_|refine qG ?_|refine qH ?_);try simp (maxSteps:=1000000)(disch:=(first|omega|(simp only [qI,qJ,qK]<;>omega)|exact qL _)) only [go_sem,↓reduceIte,n0,reduceCtorEq,n1,n2,n3,n4,n5,i0,i1,i2,i3,i4,i5,i6,i7,h33])
        refine ⟨⟨j + 1,.slice va (css9.length + 1) vc,by omega,rfl,h32',h31,h2,h3,?_,?_,?_⟩,?_⟩
        · simp (maxSteps:=1000000)(disch:=(first|omega|(simp only [qI,qJ,qK]<;>omega)|exact qL _)) only [go_sem,↓reduceIte,n0,reduceCtorEq,n1,n2,n3,n4,n5,i0,i1,i2,i3,i4,i5,i6,i7,hbt10]
        · rw [hcat];exact hg10.upd ((Upd.refl _ _).wr _ _ (.inr rfl)) htb
        · refine Upd.wr ?_ _ _ (.inr rfl)
          exact hU6.more (((hE8.mono fun _ h => h.elim).trans hMd).trans hu) fun b hb h => by have := hg.above h;omega
        · simp only [RowKit.intOf];omega
      · have hjl : j = t.u.length := by omega
        subst hjl
        rw [List.take_length] at hg
        obtain ⟨va,vc,hv',_⟩ := hg.shape
        subst hv'
        have hb16 := hU6.blk_some hb15 (by omega)
        repeat ((first | refine qA rfl ?_|refine qB ?_|refine qC rfl ?_|refine qD ?_|refine qE ?_|refine qF ?_|refine qG ?_|refine qH ?_);try simp (maxSteps:=1000000)(disch:=(first|omega|(simp only [qI,qJ,qK]<;>omega)|exact qL _)) only [go_sem,↓reduceIte,n0,reduceCtorEq,n1,n2,n3,n4,n5,i0,i1,i2,i3,i4,i5,i6,i7,h33,h32',h2,h3,hbt,hb16,cellsAt_five])
        refine ⟨⟨_,rfl,?_⟩,hE06.wr _ _ (.inl (by omega))⟩
        have hTL6 := hTL.keep (hU6.keeps fun b _ hk e => by omega)
        have hTU6 := hg.tags (ok' := (fun b => okN ok w.heap.size b ∧ b ≠ w.heap.size + 1 ∧ b ≠ w.heap.size + 2)) (fun _ _ h => h) (fun b hb => ⟨.inr (by omega),by omega,by omega⟩)
        have hS6 := (hS.weaken (ok' := fun b => ok b ∧ b < w.heap.size) fun b h1 h2 => ⟨h2,h1⟩).keep (Ext.keeps hE06 _)
        have hU9 : Upd (fun b => b = w.heap.size + 1) w6 (wr w6 (w.heap.size + 1) 0 [.int .i64 t.n,.slice bS t.s.length cS,.bool t.null,.slice al t.l.length cl',.slice va t.u.length vc]) := (Upd.refl _ _).wr _ _ (.inr rfl)
        have ht : t = .mk t.n t.s t.null t.l t.u := by cases t;rfl
        rw [ht]
        exact TreeC.intro hn ((hS6.keep (hU9.keeps fun b _ hk e => by omega)).weaken fun b _ hk => .inl hk.1) ((hTL6.keep (hU9.keeps fun b _ hk e => hk.1.2.1 e)).weaken fun b _ hk => hk.1.1) ((hTU6.keep (hU9.keeps fun b _ hk e => hk.2.1 e)).weaken fun b _ hk => hk.1)

theorem given_fn {t : Tree} (h : Lists t) : ∀ (ok : Blocks) (ct : List Value) (w : World),TreeC ok w t ct → Fn Tryz.prog 10 #[.agg ct.toArray] w fun r w' => TreeR ok w w' r t ∧ Ext w w' := by
  induction h with
  | mk hl hu he ih => exact given_step _ hl hu ih
end Ms

namespace Ms
open Go.World renaming size_alloc → qI
open Ms renaming size_wr → qJ,size_drew → qK,not_noB → qL
open W renaming seqR → qA,seq → qB,regR → qC,condK → qD,block → qE,skip → qF,ret → qG,exit → qH
open Nat renaming reduceEqDiff → n0,reduceAdd → n1,reduceMul → n2,reduceSub → n3,reduceLT → n4,reduceLeDiff → n5
open Int renaming reduceEq → i0,reduceLT → i1,reduceLE → i2,reduceNeg → i3,reduceAdd → i4,reduceSub → i5,reduceMul → i6,reduceToNat → i7
set_option maxRecDepth 4000
open Go Go.Proofs
attribute [local congr] W_congr WPsq_congr WPp_congr optK_congr addrK_congr intK_congr boolK_congr sliceK_congr tupleK_congr funcK_congr Fn_congr rawK_congr takeK_congr stepK_congr convK_congr aggK_congr

theorem FldsV.lit {w : World} {b : Nat} {fr : Nat × Nat} {T : TypeId} {fs : List Fld} {css : List (List Value)} (h : blk w b = some (css.flatten.toArray,T,fr)) (hl : ∀ cs ∈ css,cs.length = 8) (ha : All2 (FldC AnyB w) fs css) :
    FldsV AnyB w (.slice (some ⟨b,0,none⟩) fs.length fs.length) fs := by
  refine ⟨css,⟨some ⟨b,0,none⟩,fs.length,by rw [ha.1],by rw [ha.1];exact Nat.le_refl _,hl,.inr ⟨_,rfl,rfl,trivial,_,h,fun i hi => ?_⟩⟩,ha⟩
  simp only [Nat.zero_add,List.getElem?_toArray]
theorem FldsV.nil (w : World) : FldsV AnyB w (.slice none 0 0) [] := ⟨[],⟨none,0,rfl,Nat.le_refl _,by simp,.inl rfl⟩,rfl,fun i h => by simp at h⟩

def flexB (flex ver : Int) : Bool := decide (0 ≤ flex) && decide (flex ≤ ver)
theorem Write_fn {ok : Blocks} {d : Nat} (fs : List Fld) (flex ver : Int) (t : Tree) (vs : Value) (ct : List Value) (w : World) (hf : FldsV ok w vs fs) (hok : okF d fs = true) (ht : TreeC ok w t ct) (hsm : Small 4611686018427387903 t) (hlen : (partS (d + 1) fs ver (flexB flex ver) t).length ≤ 2 ^ 40) :
    Fn Tryz.prog 12 #[.agg #[vs,.int .i64 flex],.int .i64 ver,.agg ct.toArray] w fun r w' => OwnBy 5 w.heap.size w' r (partS (d + 1) fs ver (flexB flex ver) t) ∧ Ext w w' := by
  obtain ⟨vS,vL,vU,rfl,hn,hS,hL,hU⟩ := ht.inv
  have f0 := SlR.flat hf
  have f1 := hS.flat
  have f2 := SlR.flat hL
  have f3 := SlR.flat hU
  have hE : Ext w ((w.alloc (.cells #[vs,.int .i64 flex] 31)).alloc (.cells #[.int .i64 t.n,vS,.bool t.null,vL,vU] 26)) := Upd.alloc (Upd.alloc (Upd.refl _ _) _) _
  refine fn_of_W Tryz.func12 rfl Tryz.results12 Tryz.ntmps12 rfl ?_
  by_cases h1 : 0 ≤ flex
  · by_cases h2 : flex ≤ ver
    · have e : flexB flex ver = true := by simp [flexB,h1,h2]
      rw [e] at hlen ⊢
      repeat ((first | refine qA rfl ?_|refine qB ?_|refine qC rfl ?_|refine qD ?_|refine qE ?_|refine qF ?_|refine qG ?_|refine qH ?_);try simp (maxSteps:=1000000)(disch:=(first|omega|(simp only [qI,qJ,qK]<;>omega)|exact qL _)) only [go_sem,↓reduceIte,n0,reduceCtorEq,n1,n2,n3,n4,n5,i0,i1,i2,i3,i4,i5,i6,i7,f0,f1,f2,f3,cellsAt_five,cellsAt_two])
      refine (part_ok (ok := ok) d fs ver true t vs _ _ (hf.keep (hE.keeps _)) hok (ht.keep (hE.keeps _)) hsm hlen).mono ?_
      rintro r w' ⟨ho,he⟩
      repeat ((first | refine qA rfl ?_|refine qB ?_|refine qC rfl ?_|refine qD ?_|refine qE ?_|refine qF ?_|refine qG ?_|refine qH ?_);try simp (maxSteps:=1000000)(disch:=(first|omega|(simp only [qI,qJ,qK]<;>omega)|exact qL _)) only [go_sem,↓reduceIte,n0,reduceCtorEq,n1,n2,n3,n4,n5,i0,i1,i2,i3,i4,i5,i6,i7])
      exact ⟨ho.mono (by simp only [World.size_alloc];omega),hE.trans he⟩
    · have e : flexB flex ver = false := by simp [flexB,h2]
      rw [e] at hlen ⊢
      repeat ((first | refine qA rfl ?_|refine qB ?_|refine qC rfl ?_|refine qD ?_|refine qE ?_|refine qF ?_|refine qG ?_|refine qH ?_);try simp (maxSteps:=1000000)(disch:=(first|omega|(simp only [qI,qJ,qK]<;>omega)|exact qL _)) only [go_sem,↓reduceIte,n0,reduceCtorEq,n1,n2,n3,n4,n5,i0,i1,i2,i3,i4,i5,i6,i7,f0,f1,f2,f3,cellsAt_five,cellsAt_two])
      refine (part_ok (ok := ok) d fs ver false t vs _ _ (hf.keep (hE.keeps _)) hok (ht.keep (hE.keeps _)) hsm hlen).mono ?_
      rintro r w' ⟨ho,he⟩
      repeat ((first | refine qA rfl ?_|refine qB ?_|refine qC rfl ?_|refine qD ?_|refine qE ?_|refine qF ?_|refine qG ?_|refine qH ?_);try simp (maxSteps:=1000000)(disch:=(first|omega|(simp only [qI,qJ,qK]<;>omega)|exact qL _)) only [go_sem,↓reduceIte,n0,reduceCtorEq,n1,n2,n3,n4,n5,i0,i1,i2,i3,i4,i5,i6,i7])
      exact ⟨ho.mono (by simp only [World.size_alloc];omega),hE.trans he⟩
  · have e : flexB flex ver = false := by simp [flexB,h1]
    rw [e] at hlen ⊢
    repeat ((first | refine qA rfl ?_|refine qB ?_|refine qC rfl ?_|refine qD ?_|refine qE ?_|refine qF ?_|refine qG ?_|refine qH ?_);try simp (maxSteps:=1000000)(disch:=(first|omega|(simp only [qI,qJ,qK]<;>omega)|exact qL _)) only [go_sem,↓reduceIte,n0,reduceCtorEq,n1,n2,n3,n4,n5,i0,i1,i2,i3,i4,i5,i6,i7,f0,f1,f2,f3,cellsAt_five,cellsAt_two])
    refine (part_ok (ok := ok) d fs ver false t vs _ _ (hf.keep (hE.keeps _)) hok (ht.keep (hE.keeps _)) hsm hlen).mono ?_
    rintro r w' ⟨ho,he⟩
    repeat ((first | refine qA rfl ?_|refine qB ?_|refine qC rfl ?_|refine qD ?_|refine qE ?_|refine qF ?_|refine qG ?_|refine qH ?_);try simp (maxSteps:=1000000)(disch:=(first|omega|(simp only [qI,qJ,qK]<;>omega)|exact qL _)) only [go_sem,↓reduceIte,n0,reduceCtorEq,n1,n2,n3,n4,n5,i0,i1,i2,i3,i4,i5,i6,i7])
    exact ⟨ho.mono (by simp only [World.size_alloc];omega),hE.trans he⟩

theorem zzFits3_fn {ok : Blocks} (t : TagD) (ct : List Value) (w : World) (ht : TagC ok w t ct) : Fn Tryz.prog 26 #[.agg ct.toArray] w fun r w' => (∃ b,r = .bool b) ∧ Ext w w' := by
  obtain ⟨vv,rfl,hb,h32⟩ := ht
  obtain ⟨bv,cv,rfl,hcv⟩ := hb.shape
  have hE : Ext w (w.alloc (.cells #[.int .u32 t.1,.slice bv t.2.length cv] 66)) := Upd.alloc (Upd.refl _ _) _
  refine fn_of_W Tryz.func26 rfl Tryz.results26 Tryz.ntmps26 rfl ?_
  by_cases h1 : (2147483647 : Int) < (t.2.length : Int)
  · repeat ((first | refine qA rfl ?_|refine qB ?_|refine qC rfl ?_|refine qD ?_|refine qE ?_|refine qF ?_|refine qG ?_|refine qH ?_);try simp (maxSteps:=1000000)(disch:=(first|omega|(simp only [qI,qJ,qK]<;>omega)|exact qL _)) only [go_sem,↓reduceIte,n0,reduceCtorEq,n1,n2,n3,n4,n5,i0,i1,i2,i3,i4,i5,i6,i7])
    exact ⟨⟨_,rfl⟩,hE⟩
  · repeat ((first | refine qA rfl ?_|refine qB ?_|refine qC rfl ?_|refine qD ?_|refine qE ?_|refine qF ?_|refine qG ?_|refine qH ?_);try simp (maxSteps:=1000000)(disch:=(first|omega|(simp only [qI,qJ,qK]<;>omega)|exact qL _)) only [go_sem,↓reduceIte,n0,reduceCtorEq,n1,n2,n3,n4,n5,i0,i1,i2,i3,i4,i5,i6,i7])
    exact ⟨⟨_,rfl⟩,hE⟩

theorem zzFits2_fn {ok : Blocks} (l : List TagD) (vl : Value) (w : World) (hl : TagsV ok w vl l) (hlen : l.length ≤ 4611686018427387903) : Fn Tryz.prog 13 #[vl] w fun r w' => (∃ b,r = .bool b) ∧ Ext w w' := by
  obtain ⟨base,cap,rfl,hcap⟩ := SlR.shape hl
  refine fn_of_W Tryz.func13 rfl Tryz.results13 Tryz.ntmps13 rfl ?_
  by_cases h1 : (2147483647 : Int) < (l.length : Int)
  · repeat ((first | refine qA rfl ?_|refine qB ?_|refine qC rfl ?_|refine qD ?_|refine qE ?_|refine qF ?_|refine qG ?_|refine qH ?_);try simp (maxSteps:=1000000)(disch:=(first|omega|(simp only [qI,qJ,qK]<;>omega)|exact qL _)) only [go_sem,↓reduceIte,n0,reduceCtorEq,n1,n2,n3,n4,n5,i0,i1,i2,i3,i4,i5,i6,i7])
    exact ⟨⟨_,rfl⟩,Upd.refl _ _⟩
  · repeat ((first | refine qA rfl ?_|refine qB ?_|refine qC rfl ?_|refine qD ?_|refine qE ?_|refine qF ?_|refine qG ?_|refine qH ?_);try simp (maxSteps:=1000000)(disch:=(first|omega|(simp only [qI,qJ,qK]<;>omega)|exact qL _)) only [go_sem,↓reduceIte,n0,reduceCtorEq,n1,n2,n3,n4,n5,i0,i1,i2,i3,i4,i5,i6,i7])
    refine W.loop (fun ρ w' => ∃ j : Nat,j ≤ l.length ∧ ρ 10 = .int .i64 j ∧ ρ 9 = .int .i64 l.length ∧ ρ 8 = .slice base l.length cap ∧ Ext w w')
      (fun ρ _ => l.length - (RowKit.intOf (ρ 10)).toNat) ?_ ?_
    · refine ⟨0,Nat.zero_le _,?_,?_,?_,Upd.refl _ _⟩ <;> simp (maxSteps:=1000000)(disch:=(first|omega|(simp only [qI,qJ,qK]<;>omega)|exact qL _)) only [go_sem,↓reduceIte,n0,reduceCtorEq,n1,n2,n3,n4,n5,i0,i1,i2,i3,i4,i5,i6,i7]
      all_goals rfl
    · rintro ρ w1 ⟨j,hj,h10,h9,h8,hext⟩
      by_cases hlt : j < l.length
      · obtain ⟨_,b,o,x,vv,hb,hokb,hx,hblt,hxs,hxe,_,_,hfv,hbv,h32⟩ := TagsV.get hl hlt
        subst hb
        have hx1 : blk w1 b = some x := hext.blk_some hx id
        generalize l[j] = u at *
        have hE2 : Ext w1 (wr (w1.alloc (.cells #[.int .u32 0,.slice none 0 0] 66)) w1.heap.size 0 [.int .u32 u.1,vv]) := (Upd.alloc (Upd.refl _ _) _).wr _ _ (.inl (Nat.le_refl _))
        have hb2 : blk (wr (w1.alloc (.cells #[.int .u32 0,.slice none 0 0] 66)) w1.heap.size 0 [.int .u32 u.1,vv]) w1.heap.size = some (#[.int .u32 u.1,vv],66,(0,0)) := by simp (maxSteps:=1000000)(disch:=(first|omega|(simp only [qI,qJ,qK]<;>omega)|exact qL _)) only [go_sem,↓reduceIte,n0,reduceCtorEq,n1,n2,n3,n4,n5,i0,i1,i2,i3,i4,i5,i6,i7]
        repeat ((first | refine qA rfl ?_|refine qB ?_|refine qC rfl ?_|refine qD ?_|refine qE ?_|refine qF ?_|refine qG ?_|refine qH ?_);try simp (maxSteps:=1000000)(disch:=(first|omega|(simp only [qI,qJ,qK]<;>omega)|exact qL _)) only [go_sem,↓reduceIte,n0,reduceCtorEq,n1,n2,n3,n4,n5,i0,i1,i2,i3,i4,i5,i6,i7,h10,h9,h8,hx1,hxe,hfv,cellsAt_two,Int.toNat_natCast])
        generalize (wr (w1.alloc (.cells #[.int .u32 0,.slice none 0 0] 66)) w1.heap.size 0 [.int .u32 u.1,vv]) = w2 at *
        refine (zzFits3_fn (ok := ok) u _ w2 ⟨vv,rfl,hbv.keep (Ext.keeps (hext.trans hE2) _),h32⟩).mono ?_
        rintro r w3 ⟨⟨bb,rfl⟩,hE3⟩
        have hE03 : Ext w w3 := (hext.trans hE2).trans hE3
        cases bb with
        | true =>
          simp (maxSteps:=1000000)(disch:=(first|omega|(simp only [qI,qJ,qK]<;>omega)|exact qL _)) only [go_sem,↓reduceIte,n0,reduceCtorEq,n1,n2,n3,n4,n5,i0,i1,i2,i3,i4,i5,i6,i7]
          repeat ((first | refine qA rfl ?_|refine qB ?_|refine qC rfl ?_|refine qD ?_|refine qE ?_|refine qF ?_|refine qG ?_|refine qH ?_);try simp (maxSteps:=1000000)(disch:=(first|omega|(simp only [qI,qJ,qK]<;>omega)|exact qL _)) only [go_sem,↓reduceIte,n0,reduceCtorEq,n1,n2,n3,n4,n5,i0,i1,i2,i3,i4,i5,i6,i7,h10])
          refine ⟨⟨j + 1,by omega,rfl,h9,h8,hE03⟩,?_⟩
          simp only [RowKit.intOf];omega
        | false =>
          simp (maxSteps:=1000000)(disch:=(first|omega|(simp only [qI,qJ,qK]<;>omega)|exact qL _)) only [go_sem,↓reduceIte,n0,reduceCtorEq,n1,n2,n3,n4,n5,i0,i1,i2,i3,i4,i5,i6,i7]
          repeat ((first | refine qA rfl ?_|refine qB ?_|refine qC rfl ?_|refine qD ?_|refine qE ?_|refine qF ?_|refine qG ?_|refine qH ?_);try simp (maxSteps:=1000000)(disch:=(first|omega|(simp only [qI,qJ,qK]<;>omega)|exact qL _)) only [go_sem,↓reduceIte,n0,reduceCtorEq,n1,n2,n3,n4,n5,i0,i1,i2,i3,i4,i5,i6,i7,h10])
          exact ⟨⟨_,rfl⟩,hE03⟩
      · repeat ((first | refine qA rfl ?_|refine qB ?_|refine qC rfl ?_|refine qD ?_|refine qE ?_|refine qF ?_|refine qG ?_|refine qH ?_);try simp (maxSteps:=1000000)(disch:=(first|omega|(simp only [qI,qJ,qK]<;>omega)|exact qL _)) only [go_sem,↓reduceIte,n0,reduceCtorEq,n1,n2,n3,n4,n5,i0,i1,i2,i3,i4,i5,i6,i7,h10,h9])
        exact ⟨⟨_,rfl⟩,hext⟩

theorem zzFits1_fn {ok : Blocks} (t : Tree) (ct : List Value) (w : World) (ht : TreeC ok w t ct) (hsm : Small 4611686018427387903 t) : Fn Tryz.prog 4 #[.agg ct.toArray] w fun r w' => (∃ b,r = .bool b) ∧ Ext w w' := by
  obtain ⟨vS,vL,vU,rfl,hn,hS,hL,hU⟩ := ht.inv
  obtain ⟨bS,cS,rfl,hcS⟩ := hS.shape
  obtain ⟨bl,cl,rfl,hcl⟩ := SlR.shape hL
  have f3 := SlR.flat hU
  have hE : Ext w (w.alloc (.cells #[.int .i64 t.n,.slice bS t.s.length cS,.bool t.null,.slice bl t.l.length cl,vU] 26)) := Upd.alloc (Upd.refl _ _) _
  refine fn_of_W Tryz.func4 rfl Tryz.results4 Tryz.ntmps4 rfl ?_
  by_cases h1 : (2147483647 : Int) < (t.s.length : Int)
  · repeat ((first | refine qA rfl ?_|refine qB ?_|refine qC rfl ?_|refine qD ?_|refine qE ?_|refine qF ?_|refine qG ?_|refine qH ?_);try simp (maxSteps:=1000000)(disch:=(first|omega|(simp only [qI,qJ,qK]<;>omega)|exact qL _)) only [go_sem,↓reduceIte,n0,reduceCtorEq,n1,n2,n3,n4,n5,i0,i1,i2,i3,i4,i5,i6,i7,f3])
    exact ⟨⟨_,rfl⟩,hE⟩
  by_cases h2 : (2147483647 : Int) < (t.l.length : Int)
  · repeat ((first | refine qA rfl ?_|refine qB ?_|refine qC rfl ?_|refine qD ?_|refine qE ?_|refine qF ?_|refine qG ?_|refine qH ?_);try simp (maxSteps:=1000000)(disch:=(first|omega|(simp only [qI,qJ,qK]<;>omega)|exact qL _)) only [go_sem,↓reduceIte,n0,reduceCtorEq,n1,n2,n3,n4,n5,i0,i1,i2,i3,i4,i5,i6,i7,f3])
    exact ⟨⟨_,rfl⟩,hE⟩
  repeat ((first | refine qA rfl ?_|refine qB ?_|refine qC rfl ?_|refine qD ?_|refine qE ?_|refine qF ?_|refine qG ?_|refine qH ?_);try simp (maxSteps:=1000000)(disch:=(first|omega|(simp only [qI,qJ,qK]<;>omega)|exact qL _)) only [go_sem,↓reduceIte,n0,reduceCtorEq,n1,n2,n3,n4,n5,i0,i1,i2,i3,i4,i5,i6,i7,f3])
  refine (zzFits2_fn (ok := ok) t.u vU _ (hU.keep (hE.keeps _)) hsm.u).mono ?_
  rintro r w3 ⟨⟨bb,rfl⟩,hE3⟩
  cases bb with
  | true =>
    simp (maxSteps:=1000000)(disch:=(first|omega|(simp only [qI,qJ,qK]<;>omega)|exact qL _)) only [go_sem,↓reduceIte,n0,reduceCtorEq,n1,n2,n3,n4,n5,i0,i1,i2,i3,i4,i5,i6,i7]
    repeat ((first | refine qA rfl ?_|refine qB ?_|refine qC rfl ?_|refine qD ?_|refine qE ?_|refine qF ?_|refine qG ?_|refine qH ?_);try simp (maxSteps:=1000000)(disch:=(first|omega|(simp only [qI,qJ,qK]<;>omega)|exact qL _)) only [go_sem,↓reduceIte,n0,reduceCtorEq,n1,n2,n3,n4,n5,i0,i1,i2,i3,i4,i5,i6,i7])
    exact ⟨⟨_,rfl⟩,hE.trans hE3⟩
  | false =>
    simp (maxSteps:=1000000)(disch:=(first|omega|(simp only [qI,qJ,qK]<;>omega)|exact qL _)) only [go_sem,↓reduceIte,n0,reduceCtorEq,n1,n2,n3,n4,n5,i0,i1,i2,i3,i4,i5,i6,i7]
    repeat ((first | refine qA rfl ?_|refine qB ?_|refine qC rfl ?_|refine qD ?_|refine qE ?_|refine qF ?_|refine qG ?_|refine qH ?_);try simp (maxSteps:=1000000)(disch:=(first|omega|(simp only [qI,qJ,qK]<;>omega)|exact qL _)) only [go_sem,↓reduceIte,n0,reduceCtorEq,n1,n2,n3,n4,n5,i0,i1,i2,i3,i4,i5,i6,i7])
    exact ⟨⟨_,rfl⟩,hE.trans hE3⟩
end Ms

namespace Ms
open Go.World renaming size_alloc → qI
open Ms renaming size_wr → qJ,size_drew → qK,not_noB → qL
open W renaming seqR → qA,seq → qB,regR → qC,condK → qD,block → qE,skip → qF,ret → qG,exit → qH
open Nat renaming reduceEqDiff → n0,reduceAdd → n1,reduceMul → n2,reduceSub → n3,reduceLT → n4,reduceLeDiff → n5
open Int renaming reduceEq → i0,reduceLT → i1,reduceLE → i2,reduceNeg → i3,reduceAdd → i4,reduceSub → i5,reduceMul → i6,reduceToNat → i7
set_option maxRecDepth 4000
open Go Go.Proofs
attribute [local congr] W_congr WPsq_congr WPp_congr optK_congr addrK_congr intK_congr boolK_congr sliceK_congr tupleK_congr funcK_congr Fn_congr rawK_congr takeK_congr stepK_congr convK_congr aggK_congr

theorem iat_fn {ok : Blocks} (t : Tree) (i : Nat) (ct : List Value) (w : World) (ht : TreeC ok w t ct) (hi : i ≤ 1000) (hlen : t.l.length < 4611686018427387903) :
    Fn Tryz.prog 30 #[.agg ct.toArray,.int .i64 i] w fun r w' => (∃ cs,r = .agg cs.toArray ∧ TreeC ok w' (t.at i) cs) ∧ Ext w w' := by
  obtain ⟨vS,vL,vU,rfl,hn,hS,hL,hU⟩ := ht.inv
  obtain ⟨base,cap,rfl,hcap⟩ := SlR.shape hL
  have f1 := hS.flat
  have f2 := SlR.flat hU
  refine fn_of_W Tryz.func30 rfl Tryz.results30 Tryz.ntmps30 rfl ?_
  by_cases h1 : i < t.l.length
  · obtain ⟨_,b,o,x,vS',vL',vU',hb,hok,hx,hlt,hxs,hxe,g1,g2,g3,hc⟩ := TreesV.get hL h1
    subst hb
    repeat ((first | refine qA rfl ?_|refine qB ?_|refine qC rfl ?_|refine qD ?_|refine qE ?_|refine qF ?_|refine qG ?_|refine qH ?_);try simp (maxSteps:=1000000)(disch:=(first|omega|(simp only [qI,qJ,qK]<;>omega)|exact qL _)) only [go_sem,↓reduceIte,n0,reduceCtorEq,n1,n2,n3,n4,n5,i0,i1,i2,i3,i4,i5,i6,i7,f1,f2,g1,g2,g3,hx,hxe,Int.toNat_natCast])
    have hE : Ext w (wr ((w.alloc (.cells #[.int .i64 t.n,vS,.bool t.null,.slice (some ⟨b,o,none⟩) t.l.length cap,vU] 39)).alloc (.cells #[.int .i64 0,.slice none 0 0,.bool false,.slice none 0 0,.slice none 0 0] 39)) (w.heap.size + 1) 0 [.int .i64 t.l[i].n,vS',.bool t.l[i].null,vL',vU']) :=
      Upd.wr (Upd.alloc (Upd.alloc (Upd.refl _ _) _) _) _ _ (.inl (by omega))
    refine ⟨⟨_,rfl,?_⟩,hE⟩
    rw [Tree.at_lt h1]
    exact hc.keep (hE.keeps _)
  · repeat ((first | refine qA rfl ?_|refine qB ?_|refine qC rfl ?_|refine qD ?_|refine qE ?_|refine qF ?_|refine qG ?_|refine qH ?_);try simp (maxSteps:=1000000)(disch:=(first|omega|(simp only [qI,qJ,qK]<;>omega)|exact qL _)) only [go_sem,↓reduceIte,n0,reduceCtorEq,n1,n2,n3,n4,n5,i0,i1,i2,i3,i4,i5,i6,i7,f1,f2])
    refine ⟨⟨_,rfl,?_⟩,?_⟩
    · rw [Tree.at_ge (by omega)]
      exact TreeC.zero _ _
    · exact Upd.wr (Upd.alloc (Upd.alloc (Upd.refl _ _) _) _) _ _ (.inl (by omega))

end Ms

namespace Ms
open Go
structure Bulk {H : Type} (bk : DataW H → Nat) (ba : List (DataW H) → Nat) : Prop where
  pos : ∀ d,1 ≤ bk d
  slice : ∀ e s,bk (.slice e s) = ba e + ba s + 1
  agg : ∀ p,bk (.agg p) = ba p + 1
  nil : ba [] = 0
  cons : ∀ d r,ba (d :: r) = bk d + ba r
theorem Bulk.sum {H : Type} {bk : DataW H → Nat} {ba : List (DataW H) → Nat} (h : Bulk bk ba) : ∀ l,ba l = (l.map bk).sum
  | [] => h.nil
  | d :: r => by rw [h.cons,List.map_cons,List.sum_cons,h.sum r]
theorem Bulk.len {H : Type} {bk : DataW H → Nat} {ba : List (DataW H) → Nat} (h : Bulk bk ba) : ∀ l,l.length ≤ ba l
  | [] => by simp
  | d :: r => by have := h.len r;have := h.pos d;rw [h.cons,List.length_cons];omega
theorem Bulk.mem {H : Type} {bk : DataW H → Nat} {ba : List (DataW H) → Nat} (h : Bulk bk ba) {d : DataW H} : ∀ {l},d ∈ l → bk d ≤ ba l
  | [],hm => by cases hm
  | x :: r,hm => by
    rw [h.cons]
    rcases List.mem_cons.1 hm with rfl | hm
    · omega
    · have := h.mem hm;omega
theorem sum_le : ∀ {xs ys : List Nat},xs.length = ys.length → (∀ i (h1 : i < xs.length) (h2 : i < ys.length),xs[i] ≤ ys[i]) → xs.sum ≤ ys.sum
  | [],[],_,_ => Nat.le_refl _
  | x :: xs,y :: ys,h,hp => by
    have h0 := hp 0 (by simp) (by simp)
    have := sum_le (xs := xs) (ys := ys) (by simpa using h) fun i h1 h2 => by
      have := hp (i + 1) (by simpa using h1) (by simpa using h2)
      simpa using this
    simp only [List.getElem_cons_zero] at h0
    simp only [List.sum_cons];omega
  | [],_ :: _,h,_ => by simp at h
  | _ :: _,[],h,_ => by simp at h
section
variable {H : Type} {enc : TypeId × Value → H} {P : Program} {w : World} {base : Nat} {spare : Nat → Bool} {held : Bool}
variable {bk : DataW H → Nat} {ba : List (DataW H) → Nat} (hbk : Bulk bk ba)
include hbk
theorem open_bytesB {y S : TypeId} (hy : P.underlying y = some (.int .u8)) (cy : P.cellsOf y = 1) (b_y : P.bytesOf y = 1) (hS : P.underlying S = some (.slice y)) {fuel : Nat} {cs : List Value} {x : DataW H × List MemPlace} (h : DataW.trod enc P w base spare held fuel S cs = some x) (hf : Fits P S x.1) :
    ∃ v s,cs = [v] ∧ BytesV AnyB w v s ∧ s.length ≤ 140737488351232 ∧ s.length + 1 ≤ bk x.1 := by
  rcases DataW.trod_slice hS h with ⟨rfl,rfl⟩ | ⟨a,len,cap,elems,rest,n,rfl,rfl,rfl,h1,h2,h3,h4,h5,h6,h7⟩
  · exact ⟨_,[],rfl,⟨none,0,rfl,Nat.le_refl _,by simp,.inl rfl⟩,by simp,by have := hbk.pos DataW.nil;simpa using this⟩
  · have hfs := fits_slice hS hf
    simp only [List.length_map,b_y,reachBytes] at hfs
    obtain ⟨css,hc1,hc2,hc3⟩ := sl_elems (w := w) (base := base) (size := 1) (by omega) (a := a) (len := len) (cap := cap) h2 (R := fun i cs => ∃ b,ByteC b cs) (fun i hi => by
      have := h5 i hi
      rw [cy,List.getElem?_eq_getElem (by omega)] at this
      obtain ⟨cs,hcs,ht⟩ := Option.bind_eq_some_iff.1 this
      obtain ⟨n',rfl,hw⟩ := trod_int' hy ht
      refine ⟨_,hcs,UInt8.ofNat n'.toNat,?_⟩
      simp only [Lit.wf,Bool.and_eq_true,decide_eq_true_eq,IntKind.min,IntKind.max,IntKind.signed,IntKind.bits] at hw
      unfold ByteC byteV
      congr 2
      simp only [UInt8.toNat_ofNat']
      simp at hw
      omega)
    obtain ⟨s,hs1,hs2⟩ := all_choice (n := css.length) (R := fun i b => ∀ hi : i < css.length,ByteC b css[i]) (fun i hi => by obtain ⟨b,hb⟩ := hc3 i hi;exact ⟨b,fun _ => hb⟩)
    refine ⟨_,s,rfl,?_,by omega,by
      rw [hbk.slice]
      have := hbk.len (elems.map (·.1))
      rw [List.length_map] at this
      omega⟩
    have : css = s.map fun b => [byteV b] := by
      apply List.ext_getElem
      · simp [hs1]
      · intro i g1 g2
        simp only [List.getElem_map]
        exact hs2 i (by omega) g1
    rw [this] at hc1
    exact hc1

variable {y B N K S G U T L : TypeId}
theorem open_tagB (F : TreeTy P y B N K S G U T L) {fuel : Nat} {cs : List Value} {x : DataW H × List MemPlace} (h : DataW.trod enc P w base spare held fuel G cs = some x) (hf : Fits P G x.1) :
    ∃ u,TagC AnyB w u cs ∧ u.2.length ≤ 140737488351232 ∧ u.2.length + 1 ≤ bk x.1 := by
  obtain ⟨fs,hfs,hl⟩ := F.uG
  obtain ⟨xs,n,rfl,rfl,h1,h2,h3⟩ := DataW.trod_struct hfs h
  have hff := fits_struct hfs hf
  obtain ⟨f0,g0,e0,o0⟩ := struct_get hl 0 K 0 rfl
  obtain ⟨f1,g1,e1,o1⟩ := struct_get hl 1 S 1 rfl
  have hsz : xs.length = 2 := by rw [h2];simpa using congrArg List.length hl
  have k0 := h3 0 f0 g0
  have k1 := h3 1 f1 g1
  rw [e0,o0,F.cK,List.getElem?_eq_getElem (by omega)] at k0
  rw [e1,o1,F.cS,List.getElem?_eq_getElem (by omega)] at k1
  obtain ⟨m,hm,hw⟩ := trod_int' F.uK k0
  obtain ⟨v,s,hv,hb,hsl,hsb⟩ := open_bytesB hbk F.uy F.cy F.b_y F.uS k1 (by
    have := hff 1 f1 (xs[1].1) g1 (by simp [List.getElem?_eq_getElem (show 1 < xs.length by omega)])
    rw [e1] at this;exact this)
  rw [F.cG] at h1
  obtain ⟨c0,c1,rfl⟩ : ∃ a b,cs = [a,b] := by
    match cs,h1 with
    | [a,b],_ => exact ⟨_,_,rfl⟩
  · simp only [List.drop_zero,List.take_succ_cons,List.take_zero,List.drop_succ_cons,List.cons.injEq,and_true] at hm hv
    subst hm;subst hv
    simp only [Lit.wf,Bool.and_eq_true,decide_eq_true_eq,IntKind.min,IntKind.max,IntKind.signed,IntKind.bits] at hw
    simp at hw
    refine ⟨(m.toNat,s),⟨c1,?_,hb,by simp only;omega⟩,hsl,?_⟩
    · simp only [List.cons.injEq,Value.int.injEq,true_and,and_true]
      omega
    · rw [hbk.agg]
      have h8 := hbk.mem (l := xs.map (·.1)) (List.mem_map.2 ⟨_,List.getElem_mem (show 1 < xs.length by omega),rfl⟩)
      simp only
      omega

theorem open_treeB (F : TreeTy P y B N K S G U T L) : ∀ (fuel : Nat) {cs : List Value} {x : DataW H × List MemPlace},DataW.trod enc P w base spare held fuel T cs = some x → Fits P T x.1 →
    ∃ t,TreeC AnyB w t cs ∧ Small 140737488351232 t ∧ Sized (bk x.1) t := by
  intro fuel
  induction fuel using Nat.strongRecOn with
  | _ fuel ih =>
  intro cs x h hf
  obtain ⟨fs,hfs,hl⟩ := F.uT
  obtain ⟨xs,n,rfl,rfl,h1,h2,h3⟩ := DataW.trod_struct hfs h
  have hff := fits_struct hfs hf
  obtain ⟨f0,g0,e0,o0⟩ := struct_get hl 0 N 0 rfl
  obtain ⟨f1,g1,e1,o1⟩ := struct_get hl 1 S 1 rfl
  obtain ⟨f2,g2,e2,o2⟩ := struct_get hl 2 B 2 rfl
  obtain ⟨f3,g3,e3,o3⟩ := struct_get hl 3 L 3 rfl
  obtain ⟨f4,g4,e4,o4⟩ := struct_get hl 4 U 4 rfl
  have hsz : xs.length = 5 := by rw [h2];simpa using congrArg List.length hl
  have k0 := h3 0 f0 g0
  have k1 := h3 1 f1 g1
  have k2 := h3 2 f2 g2
  have k3 := h3 3 f3 g3
  have k4 := h3 4 f4 g4
  rw [e0,o0,F.cN,List.getElem?_eq_getElem (by omega)] at k0
  rw [e1,o1,F.cS,List.getElem?_eq_getElem (by omega)] at k1
  rw [e2,o2,F.cB,List.getElem?_eq_getElem (by omega)] at k2
  rw [e3,o3,F.cL,List.getElem?_eq_getElem (by omega)] at k3
  rw [e4,o4,F.cU,List.getElem?_eq_getElem (by omega)] at k4
  have fit : ∀ i (hi : i < xs.length) f t,fs[i]? = some f → f.type = t → Fits P t xs[i].1 := fun i hi f t hg he => by
    have := hff i f (xs[i].1) hg (by simp [List.getElem?_eq_getElem hi])
    rw [he] at this;exact this
  obtain ⟨m,hm,hw⟩ := trod_int' F.uN k0
  obtain ⟨v,s,hv,hb,hsl,hsb⟩ := open_bytesB hbk F.uy F.cy F.b_y F.uS k1 (fit 1 (by omega) f1 S g1 e1)
  obtain ⟨bb,hbb⟩ := trod_bool' F.uB k2
  have fL := fit 3 (by omega) f3 L g3 e3
  have fU := fit 4 (by omega) f4 U g4 e4
  have hLx : ∃ vL l,((cs.drop 3).take 1) = [vL] ∧ TreesV AnyB w vL l ∧ l.length ≤ 140737488351232 ∧ (∀ i (hi : i < l.length),Small 140737488351232 l[i]) ∧ ∃ ns : List Nat,ns.length = l.length ∧ (∀ i (h1 : i < l.length) (h2 : i < ns.length),Sized ns[i] l[i]) ∧ ns.sum + 1 ≤ bk xs[3].1 := by
    rcases DataW.trod_slice F.uL k3 with ⟨hc,hx⟩ | ⟨a,len,cap,elems,rest,n',hn',hc,hx,q1,q2,q3,q4,q5,q6,q7⟩
    · exact ⟨_,[],hc,⟨[],⟨none,0,rfl,Nat.le_refl _,by simp,.inl rfl⟩,rfl,fun i h => by simp at h⟩,by simp,fun i h => by simp at h,[],rfl,fun i h => by simp at h,by simpa using hbk.pos _⟩
    · rw [hx] at fL
      have hfs := fits_slice F.uL fL
      simp only [List.length_map,F.bT,reachBytes] at hfs
      obtain ⟨css,hc1,hc2,hc3⟩ := sl_elems (w := w) (base := base) (size := 5) (by omega) (a := a) (len := len) (cap := cap) q2 (R := fun i cs => ∃ t,TreeC AnyB w t cs ∧ Small 140737488351232 t ∧ ∀ hi : i < elems.length,Sized (bk (elems[i]).1) t) (fun i hi => by
        have := q5 i hi
        rw [F.cT,List.getElem?_eq_getElem (by omega)] at this
        obtain ⟨cs',hcs,ht⟩ := Option.bind_eq_some_iff.1 this
        obtain ⟨t,g1,g2,g3⟩ := ih n' (by omega) ht (hfs.2 _ (List.mem_map.2 ⟨_,List.getElem_mem _,rfl⟩))
        exact ⟨_,hcs,t,g1,g2,fun _ => g3⟩)
      obtain ⟨l,hs1,hs2⟩ := all_choice (n := css.length) (R := fun i t => ∀ hi : i < css.length,TreeC AnyB w t css[i] ∧ Small 140737488351232 t ∧ ∀ hi : i < elems.length,Sized (bk (elems[i]).1) t) (fun i hi => by obtain ⟨t,ht⟩ := hc3 i hi;exact ⟨t,fun _ => ht⟩)
      refine ⟨_,l,hc,⟨css,hc1,hs1,fun i g1 g2 => (hs2 i g1 g2).1⟩,by omega,fun i hi => (hs2 i hi (by omega)).2.1,elems.map fun e => bk e.1,by simp only [List.length_map];omega,fun i h1 h2 => ?_,?_⟩
      · simp only [List.getElem_map]
        exact (hs2 i h1 (by omega)).2.2 (by simpa using h2)
      · rw [hx,hbk.slice,hbk.sum,List.map_map]
        exact Nat.succ_le_succ (Nat.le_add_right _ _)
  have hUx : ∃ vU u,((cs.drop 4).take 1) = [vU] ∧ TagsV AnyB w vU u ∧ u.length ≤ 140737488351232 ∧ (∀ x ∈ u,x.2.length ≤ 140737488351232) ∧ (u.map fun x => x.2.length + 1).sum + 1 ≤ bk xs[4].1 := by
    rcases DataW.trod_slice F.uU k4 with ⟨hc,hx⟩ | ⟨a,len,cap,elems,rest,n',hn',hc,hx,q1,q2,q3,q4,q5,q6,q7⟩
    · exact ⟨_,[],hc,⟨[],⟨none,0,rfl,Nat.le_refl _,by simp,.inl rfl⟩,rfl,fun i h => by simp at h⟩,by simp,fun x h => by simp at h,by simpa using hbk.pos _⟩
    · rw [hx] at fU
      have hfs := fits_slice F.uU fU
      simp only [List.length_map,F.bG,reachBytes] at hfs
      obtain ⟨css,hc1,hc2,hc3⟩ := sl_elems (w := w) (base := base) (size := 2) (by omega) (a := a) (len := len) (cap := cap) q2 (R := fun i cs => ∃ t,TagC AnyB w t cs ∧ t.2.length ≤ 140737488351232 ∧ ∀ hi : i < elems.length,t.2.length + 1 ≤ bk (elems[i]).1) (fun i hi => by
        have := q5 i hi
        rw [F.cG,List.getElem?_eq_getElem (by omega)] at this
        obtain ⟨cs',hcs,ht⟩ := Option.bind_eq_some_iff.1 this
        obtain ⟨t,g1,g2,g3⟩ := open_tagB hbk F ht (hfs.2 _ (List.mem_map.2 ⟨_,List.getElem_mem _,rfl⟩))
        exact ⟨_,hcs,t,g1,g2,fun _ => g3⟩)
      obtain ⟨l,hs1,hs2⟩ := all_choice (n := css.length) (R := fun i t => ∀ hi : i < css.length,TagC AnyB w t css[i] ∧ t.2.length ≤ 140737488351232 ∧ ∀ hi : i < elems.length,t.2.length + 1 ≤ bk (elems[i]).1) (fun i hi => by obtain ⟨t,ht⟩ := hc3 i hi;exact ⟨t,fun _ => ht⟩)
      refine ⟨_,l,hc,⟨css,hc1,hs1,fun i g1 g2 => (hs2 i g1 g2).1⟩,by omega,fun x hx => ?_,?_⟩
      · obtain ⟨i,hi,rfl⟩ := List.getElem_of_mem hx
        exact (hs2 i hi (by omega)).2.1
      · have hsum := sum_le (xs := l.map fun x => x.2.length + 1) (ys := elems.map fun e => bk e.1) (by simp only [List.length_map];omega) fun i h1 h2 => by
          simp only [List.getElem_map]
          exact (hs2 i (by simpa using h1) (by simp at h1;omega)).2.2 (by simpa using h2)
        rw [hx,hbk.slice,hbk.sum,List.map_map]
        exact Nat.succ_le_succ (Nat.le_trans hsum (Nat.le_add_right _ _))
  obtain ⟨vL,l,hLc,hLv,hLl,hLe,ns,hns1,hns2,hns3⟩ := hLx
  obtain ⟨vU,u,hUc,hUv,hUl,hUe,hUs⟩ := hUx
  rw [F.cT] at h1
  obtain ⟨c0,c1,c2,c3,c4,rfl⟩ : ∃ a b c d e,cs = [a,b,c,d,e] := by
    match cs,h1 with
    | [a,b,c,d,e],_ => exact ⟨_,_,_,_,_,rfl⟩
  · obtain rfl : c0 = .int .i64 m := by simpa using hm
    obtain rfl : c1 = v := by simpa using hv
    obtain rfl : c2 = .bool bb := by simpa using hbb
    obtain rfl : c3 = vL := by simpa using hLc
    obtain rfl : c4 = vU := by simpa using hUc
    refine ⟨.mk m s bb l u,TreeC.intro (wf_wrap_eq hw) hb hLv hUv,.mk hsl hLl hUl hLe hUe,.mk ns hns1 hns2 (fun x hx => ?_) ?_⟩
    · obtain ⟨css,_,h8,h9⟩ := hUv
      obtain ⟨i,hi,rfl⟩ := List.getElem_of_mem hx
      obtain ⟨_,_,_,h10⟩ := h9 i hi (by omega)
      exact h10
    · rw [hbk.agg]
      obtain ⟨x0,x1,x2,x3,x4,rfl⟩ : ∃ a b c d e,xs = [a,b,c,d,e] := by
        match xs,hsz with
        | [a,b,c,d,e],_ => exact ⟨_,_,_,_,_,rfl⟩
      simp only [List.map_cons,List.map_nil,hbk.cons,hbk.nil]
      simp only [List.getElem_cons_zero,List.getElem_cons_succ] at hsb hns3 hUs
      have := hbk.pos x0.1
      omega
end
end Ms

