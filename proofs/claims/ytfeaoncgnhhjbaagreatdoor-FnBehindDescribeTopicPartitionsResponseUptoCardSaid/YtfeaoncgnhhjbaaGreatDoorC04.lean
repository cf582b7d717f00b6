/- A part of the proof: see the last text. -/
import Derived.Test.YtfeaoncgnhhjbaaGreatDoorC01
import Derived.Test.YtfeaoncgnhhjbaaGreatDoorC03
set_option linter.unusedSimpArgs false
set_option linter.unusedVariables false
namespace Ms
open Go.World renaming size_alloc → qI
open Ms renaming size_wr → qJ,size_drew → qK,not_noB → qL
open W renaming seqR → qA,seq → qB,regR → qC,condK → qD,block → qE,skip → qF,ret → qG,exit → qH
open Nat renaming reduceEqDiff → n0,reduceAdd → n1,reduceMul → n2,reduceSub → n3,reduceLT → n4,reduceLeDiff → n5
open Int renaming reduceEq → i0,reduceLT → i1,reduceLE → i2,reduceNeg → i3,reduceAdd → i4,reduceSub → i5,reduceMul → i6,reduceToNat → i7
set_option maxRecDepth 4000
open Go Go.Proofs
attribute [local congr] W_congr WPsq_congr WPp_congr optK_congr addrK_congr intK_congr boolK_congr sliceK_congr tupleK_congr funcK_congr Fn_congr rawK_congr takeK_congr stepK_congr convK_congr aggK_congr

def OwnTags (ok : Blocks) (w : World) (B : Nat) (w' : World) (v : Value) (ts : List TagD) : Prop := ∃ css,OwnE B w' 55 2 v css ∧ All2 (TagC ok w) ts css

abbrev UG (w : World) (N j K tb capl : Nat) (base : Option Addr) (v vv : Value) (css : List (List Value)) (t : TagD) (ρ : Regs) (w' : World) : Prop :=
  ρ 19 = .int .i64 j ∧ ρ 18 = .int .i64 N ∧ ρ 17 = .slice base N capl ∧ ρ 5 = .int .u32 K ∧ ρ 6 = v ∧ ρ 8 = .pointer (some ⟨tb,0,none⟩) ∧
    OwnE w.heap.size w' 55 2 v css ∧ blk w' tb = some (#[.int .u32 t.1,vv],55,(0,0)) ∧ Ext w w' ∧ tb < w'.heap.size

theorem unknown_fn {ok : Blocks} (fs : List Fld) (vf : Value) (l : List TagD) (vl : Value) (w : World) (hf : FldsV ok w vf fs) (hfl : fs.length ≤ 1000) (htag : ∀ f ∈ fs,f.tag ≤ 1000) (hl : TagsV ok w vl l) :
    Fn Tryz.prog 29 #[vf,vl] w fun r w' => OwnTags ok w w.heap.size w' r (unknownS fs l) ∧ Ext w w' := by
  obtain ⟨basel,capl,rfl,hcapl⟩ := SlR.shape hl
  have hK := knownS_le (fs := fs) htag
  refine fn_of_W Tryz.func29 rfl Tryz.results29 Tryz.ntmps29 rfl ?_
  repeat ((first | refine qA rfl ?_|apply qB|refine qC rfl ?_|apply qD|apply qE|apply qF|apply qG|apply qH);try simp (disch:=(first|omega|(simp only [qI,qJ,qK]<;>omega)|exact qL _)) only [go_sem,↓reduceIte,n0,reduceCtorEq,n1,n2,n3,n4,n5,i0,i1,i2,i3,i4,i5,i6,i7])
  refine (known_fn fs vf w hf hfl htag).mono ?_
  rintro v0 w0 ⟨rfl,hE0⟩
  have hz0 := hE0.size
  have hmin : (if (32767 : Int) < (l.length : Int) then (32767 : Int) else (l.length : Int)) = ((min l.length 32767 : Nat) : Int) := by
    split <;> omega
  repeat ((first | refine qA rfl ?_|apply qB|refine qC rfl ?_|apply qD|apply qE|apply qF|apply qG|apply qH);try simp (disch:=(first|omega|(simp only [qI,qJ,qK]<;>omega)|exact qL _)) only [go_sem,↓reduceIte,n0,reduceCtorEq,n1,n2,n3,n4,n5,i0,i1,i2,i3,i4,i5,i6,i7,hmin,Int.toNat_natCast])
  clear hmin
  have hN : min l.length 32767 ≤ 32767 := Nat.min_le_right _ _
  have hL := SlR.take hl (min l.length 32767) (by omega)
  have hLl : (l.take (min l.length 32767)).length = min l.length 32767 := by simp
  have hun : unknownS fs l = (l.take (min l.length 32767)).foldl (insTag (knownS fs)) [] := by rw [take_min];rfl
  generalize slBase basel 0 capl 2 = base at *
  generalize l.take (min l.length 32767) = L at *
  generalize min l.length 32767 = N at *
  generalize knownS fs = K at *
  refine W.loop (fun ρ w' => ∃ (j : Nat) (v : Value) (css : List (List Value)),j ≤ N ∧ ρ 19 = .int .i64 j ∧ ρ 18 = .int .i64 N ∧ ρ 17 = .slice base N capl ∧ ρ 5 = .int .u32 K ∧ ρ 6 = v ∧
      OwnE w.heap.size w' 55 2 v css ∧ All2 (TagC ok w) ((L.take j).foldl (insTag K) []) css ∧ css.length ≤ j ∧ Ext w w')
    (fun ρ _ => N - (RowKit.intOf (ρ 19)).toNat) ?_ ?_
  · refine ⟨0,_,[],Nat.zero_le _,?_,?_,?_,?_,rfl,?_,⟨rfl,fun i h => by simp at h⟩,Nat.le_refl _,hE0⟩ <;> simp (disch:=(first|omega|(simp only [qI,qJ,qK]<;>omega)|exact qL _)) only [go_sem,↓reduceIte,n0,reduceCtorEq,n1,n2,n3,n4,n5,i0,i1,i2,i3,i4,i5,i6,i7]
    all_goals first | rfl | exact OwnE.nil _ _ _ _
  · rintro ρ w1 ⟨j,v,css,hj,h19,h18,h17,h5,h6,hown,hall,hcl,hext⟩
    have hz := hext.size
    by_cases hlt : j < N
    · obtain ⟨_,b,o,x,vv,hb,_,hx,hblt,hxs,hxe,_,_,hfv,hbv,ht32⟩ := TagsV.get hL (by omega : j < L.length)
      subst hb
      have hx1 : blk w1 b = some x := hext.blk_some hx id
      have hfold : (L.take (j + 1)).foldl (insTag K) [] = insTag K ((L.take j).foldl (insTag K) []) L[j] := by
        rw [List.take_succ_eq_append_getElem (by omega)];simp only [List.foldl_append,List.foldl_cons,List.foldl_nil]
      generalize L[j] = t at *
      generalize (L.take j).foldl (insTag K) [] = out at *
      have hol : out.length = css.length := hall.1
      repeat ((first | refine qA rfl ?_|apply qB|refine qC rfl ?_|apply qD|apply qE|apply qF|apply qG|apply qH);try simp (disch:=(first|omega|(simp only [qI,qJ,qK]<;>omega)|exact qL _)) only [go_sem,↓reduceIte,n0,reduceCtorEq,n1,n2,n3,n4,n5,i0,i1,i2,i3,i4,i5,i6,i7,h19,h18,h17,h5,h6,hx1,hxe,hfv,Int.toNat_natCast])
      refine W.exitJ 2 (fun ρ' w' => ∃ i : Nat,i ≤ css.length ∧ ρ' 9 = .int .i64 i ∧ UG w N j K w1.heap.size capl (some ⟨b,o,none⟩) v vv css t ρ' w' ∧ (∀ k (hk : k < out.length),k < i → out[k].1 < t.1) ∧ (∀ hi : i < out.length,t.1 ≤ out[i].1))
        (W.loop (fun ρ' w' => ∃ i : Nat,i ≤ css.length ∧ ρ' 9 = .int .i64 i ∧ UG w N j K w1.heap.size capl (some ⟨b,o,none⟩) v vv css t ρ' w' ∧ (∀ k (hk : k < out.length),k < i → out[k].1 < t.1))
          (fun ρ _ => css.length - (RowKit.intOf (ρ 9)).toNat) ?_ ?_) ?_
      · refine ⟨0,Nat.zero_le _,?_,⟨?_,?_,?_,?_,?_,?_,?_,?_,?_,?_⟩,fun k _ h => by omega⟩
        · simp (disch:=(first|omega|(simp only [qI,qJ,qK]<;>omega)|exact qL _)) only [go_sem,↓reduceIte,n0,reduceCtorEq,n1,n2,n3,n4,n5,i0,i1,i2,i3,i4,i5,i6,i7]
          rfl
        iterate 6 (· simp (disch:=(first|omega|(simp only [qI,qJ,qK]<;>omega)|exact qL _)) only [go_sem,↓reduceIte,n0,reduceCtorEq,n1,n2,n3,n4,n5,i0,i1,i2,i3,i4,i5,i6,i7,h19,h18,h17,h5,h6])
        · exact (hown.alloc _).upd ((Upd.refl (fun b => b = w1.heap.size) _).wr 0 _ (.inr rfl)) fun b hb e => by have := hown.1.below hb;omega
        · simp (disch:=(first|omega|(simp only [qI,qJ,qK]<;>omega)|exact qL _)) only [go_sem,↓reduceIte,n0,reduceCtorEq,n1,n2,n3,n4,n5,i0,i1,i2,i3,i4,i5,i6,i7]
        · exact (hext.alloc _).wr _ _ (.inl (by omega))
        · simp only [size_wr,World.size_alloc];omega
      · rintro ρ2 w2 ⟨i,hi,h9,⟨k19,k18,k17,k5,k6,k8,hown2,htb,hext2,htbl⟩,hlo⟩
        obtain ⟨va,vc,hv,hvc⟩ := hown2.shape
        subst hv
        by_cases hil : i < css.length
        · obtain ⟨g,cap,x2,hv,hcap,hBg,hgl,hgb,hg1,hg2,hg3⟩ := hown2.view (by omega)
          cases hv
          obtain ⟨vv2,hcs,hbv2,h32⟩ := hall.2 i (by omega) hil
          have hnum := hg3 i hil 0 (by omega)
          rw [hcs,Nat.add_zero] at hnum
          have hii : i < out.length := by omega
          by_cases hlt2 : out[i].1 < t.1
          · repeat ((first | refine qA rfl ?_|apply qB|refine qC rfl ?_|apply qD|apply qE|apply qF|apply qG|apply qH);try simp (disch:=(first|omega|(simp only [qI,qJ,qK]<;>omega)|exact qL _)) only [go_sem,↓reduceIte,n0,reduceCtorEq,n1,n2,n3,n4,n5,i0,i1,i2,i3,i4,i5,i6,i7])
            refine W.drawR (.take 0 (.take 1 (.take 2 (.take 3 (.take 4 (.take 5 (.take 6 (.take 7 (.take 8 (.take 9 (.take 10 (.take 11 (.take 12 (.take 13 .done)))))))))))))) NoB mixed (by kernel_rfl) ?_
            simp (disch:=(first|omega|(simp only [qI,qJ,qK]<;>omega)|exact qL _)) only [go_sem,↓reduceIte,n0,reduceCtorEq,n1,n2,n3,n4,n5,i0,i1,i2,i3,i4,i5,i6,i7,k6,h9,k8,hgb,hnum,htb,Int.toNat_natCast]
            repeat ((first | refine qA rfl ?_|apply qB|refine qC rfl ?_|apply qD|apply qE|apply qF|apply qG|apply qH);try simp (disch:=(first|omega|(simp only [qI,qJ,qK]<;>omega)|exact qL _)) only [go_sem,↓reduceIte,n0,reduceCtorEq,n1,n2,n3,n4,n5,i0,i1,i2,i3,i4,i5,i6,i7,h9])
            refine ⟨⟨i + 1,by omega,?_,⟨?_,?_,?_,?_,?_,?_,hown2.upd (Upd.refl (fun _ => False) _).drew (fun _ _ h => h),htb,hext2.drew,htbl⟩,?_⟩,?_⟩
            · rfl
            iterate 6 (· simp (disch:=(first|omega|(simp only [qI,qJ,qK]<;>omega)|exact qL _)) only [go_sem,↓reduceIte,n0,reduceCtorEq,n1,n2,n3,n4,n5,i0,i1,i2,i3,i4,i5,i6,i7,k19,k18,k17,k5,k6,k8])
            · intro k hk hki
              rcases Nat.lt_or_ge k i with h | h
              · exact hlo k hk h
              · have : k = i := by omega
                subst this;exact hlt2
            · simp only [RowKit.intOf,h9];omega
          · repeat ((first | refine qA rfl ?_|apply qB|refine qC rfl ?_|apply qD|apply qE|apply qF|apply qG|apply qH);try simp (disch:=(first|omega|(simp only [qI,qJ,qK]<;>omega)|exact qL _)) only [go_sem,↓reduceIte,n0,reduceCtorEq,n1,n2,n3,n4,n5,i0,i1,i2,i3,i4,i5,i6,i7])
            refine W.drawR (.take 0 (.take 1 (.take 2 (.take 3 (.take 4 (.take 5 (.take 6 (.take 7 (.take 8 (.take 9 (.take 10 (.take 11 (.take 12 (.take 13 .done)))))))))))))) NoB mixed (by kernel_rfl) ?_
            simp (disch:=(first|omega|(simp only [qI,qJ,qK]<;>omega)|exact qL _)) only [go_sem,↓reduceIte,n0,reduceCtorEq,n1,n2,n3,n4,n5,i0,i1,i2,i3,i4,i5,i6,i7,k6,h9,k8,hgb,hnum,htb,Int.toNat_natCast]
            repeat ((first | refine qA rfl ?_|apply qB|refine qC rfl ?_|apply qD|apply qE|apply qF|apply qG|apply qH);try simp (disch:=(first|omega|(simp only [qI,qJ,qK]<;>omega)|exact qL _)) only [go_sem,↓reduceIte,n0,reduceCtorEq,n1,n2,n3,n4,n5,i0,i1,i2,i3,i4,i5,i6,i7])
            refine ⟨i,hi,?_,⟨?_,?_,?_,?_,?_,?_,hown2.upd (Upd.refl (fun _ => False) _).drew (fun _ _ h => h),htb,hext2.drew,htbl⟩,hlo,fun _ => by omega⟩
            iterate 7 (· simp (disch:=(first|omega|(simp only [qI,qJ,qK]<;>omega)|exact qL _)) only [go_sem,↓reduceIte,n0,reduceCtorEq,n1,n2,n3,n4,n5,i0,i1,i2,i3,i4,i5,i6,i7,k19,k18,k17,k5,k6,k8,h9])
        · repeat ((first | refine qA rfl ?_|apply qB|refine qC rfl ?_|apply qD|apply qE|apply qF|apply qG|apply qH);try simp (disch:=(first|omega|(simp only [qI,qJ,qK]<;>omega)|exact qL _)) only [go_sem,↓reduceIte,n0,reduceCtorEq,n1,n2,n3,n4,n5,i0,i1,i2,i3,i4,i5,i6,i7])
          refine W.drawR (.take 0 (.take 1 (.take 2 (.take 3 (.take 4 (.take 5 (.take 6 (.take 7 (.take 8 (.take 9 (.take 10 (.take 11 (.take 12 (.take 13 .done)))))))))))))) NoB mixed (by kernel_rfl) ?_
          simp (disch:=(first|omega|(simp only [qI,qJ,qK]<;>omega)|exact qL _)) only [go_sem,↓reduceIte,n0,reduceCtorEq,n1,n2,n3,n4,n5,i0,i1,i2,i3,i4,i5,i6,i7,k6,h9,k8,htb]
          repeat ((first | refine qA rfl ?_|apply qB|refine qC rfl ?_|apply qD|apply qE|apply qF|apply qG|apply qH);try simp (disch:=(first|omega|(simp only [qI,qJ,qK]<;>omega)|exact qL _)) only [go_sem,↓reduceIte,n0,reduceCtorEq,n1,n2,n3,n4,n5,i0,i1,i2,i3,i4,i5,i6,i7])
          refine ⟨i,hi,?_,⟨?_,?_,?_,?_,?_,?_,hown2.upd (Upd.refl (fun _ => False) _).drew (fun _ _ h => h),htb,hext2.drew,htbl⟩,hlo,fun _ => by omega⟩
          iterate 7 (· simp (disch:=(first|omega|(simp only [qI,qJ,qK]<;>omega)|exact qL _)) only [go_sem,↓reduceIte,n0,reduceCtorEq,n1,n2,n3,n4,n5,i0,i1,i2,i3,i4,i5,i6,i7,k19,k18,k17,k5,k6,k8,h9])
      · rintro ρ2 w2 ⟨i,hi,h9,⟨k19,k18,k17,k5,k6,k8,hown2,htb,hext2,htbl⟩,hlo,hhi⟩
        obtain ⟨va,vc,hv,hvc⟩ := hown2.shape
        subst hv
        simp (disch:=(first|omega|(simp only [qI,qJ,qK]<;>omega)|exact qL _)) only [go_sem,↓reduceIte,n0,reduceCtorEq,n1,n2,n3,n4,n5,i0,i1,i2,i3,i4,i5,i6,i7]
        repeat ((first | refine qA rfl ?_|apply qB|refine qC rfl ?_|apply qD|apply qE|apply qF|apply qG|apply qH);try simp (disch:=(first|omega|(simp only [qI,qJ,qK]<;>omega)|exact qL _)) only [go_sem,↓reduceIte,n0,reduceCtorEq,n1,n2,n3,n4,n5,i0,i1,i2,i3,i4,i5,i6,i7])
        refine W.normJ (fun ρ' w' => ∃ bb : Bool,ρ' 58 = .bool bb ∧ (bb = true ↔ (t.1 < K ∨ ∃ hi : i < out.length,out[i].1 = t.1)) ∧ ρ' 9 = .int .i64 i ∧ UG w N j K w1.heap.size capl (some ⟨b,o,none⟩) (.slice va css.length vc) vv css t ρ' w') ?_ ?_
        · by_cases hKt : t.1 < K
          · refine W.drawR (.take 0 (.take 1 (.take 2 (.take 3 (.take 4 (.take 5 (.take 6 (.take 7 (.take 8 (.take 9 (.take 10 (.take 11 (.take 12 (.take 13 (.take 14 (.take 15 (.take 16 (.take 17 (.take 18 (.take 19 .done)))))))))))))))))))) NoB mixed (by kernel_rfl) ?_
            simp (disch:=(first|omega|(simp only [qI,qJ,qK]<;>omega)|exact qL _)) only [go_sem,↓reduceIte,n0,reduceCtorEq,n1,n2,n3,n4,n5,i0,i1,i2,i3,i4,i5,i6,i7,k6,h9,k8,k5,htb]
            refine ⟨true,rfl,by simp [hKt],⟨?_,?_,?_,?_,?_,?_,hown2.upd (Upd.refl (fun _ => False) _).drew (fun _ _ h => h),htb,hext2.drew,htbl⟩⟩
            iterate 6 (· simp (disch:=(first|omega|(simp only [qI,qJ,qK]<;>omega)|exact qL _)) only [go_sem,↓reduceIte,n0,reduceCtorEq,n1,n2,n3,n4,n5,i0,i1,i2,i3,i4,i5,i6,i7,k19,k18,k17,k5,k6,k8])
          · by_cases hil : i < css.length
            · obtain ⟨g,cap,x2,hv,hcap,hBg,hgl,hgb,hg1,hg2,hg3⟩ := hown2.view (by omega)
              cases hv
              obtain ⟨vv2,hcs,hbv2,h32⟩ := hall.2 i (by omega) hil
              have hnum := hg3 i hil 0 (by omega)
              rw [hcs,Nat.add_zero] at hnum
              have hii : i < out.length := by omega
              by_cases heq : out[i].1 = t.1
              · refine W.drawR (.take 0 (.take 1 (.take 2 (.take 3 (.take 4 (.take 5 (.take 6 (.take 7 (.take 8 (.take 9 (.take 10 (.take 11 (.take 12 (.take 13 (.take 14 (.take 15 (.take 16 (.take 17 (.take 18 (.take 19 .done)))))))))))))))))))) NoB mixed (by kernel_rfl) ?_
                simp (disch:=(first|omega|(simp only [qI,qJ,qK]<;>omega)|exact qL _)) only [go_sem,↓reduceIte,n0,reduceCtorEq,n1,n2,n3,n4,n5,i0,i1,i2,i3,i4,i5,i6,i7,k6,h9,k8,k5,hgb,hnum,htb,Int.toNat_natCast]
                refine ⟨true,rfl,by simp [heq,hii],⟨?_,?_,?_,?_,?_,?_,hown2.upd (Upd.refl (fun _ => False) _).drew (fun _ _ h => h),htb,hext2.drew,htbl⟩⟩
                iterate 6 (· simp (disch:=(first|omega|(simp only [qI,qJ,qK]<;>omega)|exact qL _)) only [go_sem,↓reduceIte,n0,reduceCtorEq,n1,n2,n3,n4,n5,i0,i1,i2,i3,i4,i5,i6,i7,k19,k18,k17,k5,k6,k8])
              · refine W.drawR (.take 0 (.take 1 (.take 2 (.take 3 (.take 4 (.take 5 (.take 6 (.take 7 (.take 8 (.take 9 (.take 10 (.take 11 (.take 12 (.take 13 (.take 14 (.take 15 (.take 16 (.take 17 (.take 18 (.take 19 .done)))))))))))))))))))) NoB mixed (by kernel_rfl) ?_
                simp (disch:=(first|omega|(simp only [qI,qJ,qK]<;>omega)|exact qL _)) only [go_sem,↓reduceIte,n0,reduceCtorEq,n1,n2,n3,n4,n5,i0,i1,i2,i3,i4,i5,i6,i7,k6,h9,k8,k5,hgb,hnum,htb,Int.toNat_natCast]
                refine ⟨false,rfl,by simp [heq,hKt],⟨?_,?_,?_,?_,?_,?_,hown2.upd (Upd.refl (fun _ => False) _).drew (fun _ _ h => h),htb,hext2.drew,htbl⟩⟩
                iterate 6 (· simp (disch:=(first|omega|(simp only [qI,qJ,qK]<;>omega)|exact qL _)) only [go_sem,↓reduceIte,n0,reduceCtorEq,n1,n2,n3,n4,n5,i0,i1,i2,i3,i4,i5,i6,i7,k19,k18,k17,k5,k6,k8])
            · refine W.drawR (.take 0 (.take 1 (.take 2 (.take 3 (.take 4 (.take 5 (.take 6 (.take 7 (.take 8 (.take 9 (.take 10 (.take 11 (.take 12 (.take 13 (.take 14 (.take 15 (.take 16 (.take 17 (.take 18 (.take 19 .done)))))))))))))))))))) NoB mixed (by kernel_rfl) ?_
              simp (disch:=(first|omega|(simp only [qI,qJ,qK]<;>omega)|exact qL _)) only [go_sem,↓reduceIte,n0,reduceCtorEq,n1,n2,n3,n4,n5,i0,i1,i2,i3,i4,i5,i6,i7,k6,h9,k8,k5,htb]
              refine ⟨false,rfl,by simp [hKt];omega,⟨?_,?_,?_,?_,?_,?_,hown2.upd (Upd.refl (fun _ => False) _).drew (fun _ _ h => h),htb,hext2.drew,htbl⟩⟩
              iterate 6 (· simp (disch:=(first|omega|(simp only [qI,qJ,qK]<;>omega)|exact qL _)) only [go_sem,↓reduceIte,n0,reduceCtorEq,n1,n2,n3,n4,n5,i0,i1,i2,i3,i4,i5,i6,i7,k19,k18,k17,k5,k6,k8])
        · rintro ρ3 w3 ⟨bb,h58,hbb,h9,⟨k19,k18,k17,k5,k6,k8,hown3,htb,hext3,htbl⟩⟩
          cases bb with
          | true =>
            simp (disch:=(first|omega|(simp only [qI,qJ,qK]<;>omega)|exact qL _)) only [go_sem,↓reduceIte,n0,reduceCtorEq,n1,n2,n3,n4,n5,i0,i1,i2,i3,i4,i5,i6,i7]
            repeat ((first | refine qA rfl ?_|apply qB|refine qC rfl ?_|apply qD|apply qE|apply qF|apply qG|apply qH);try simp (disch:=(first|omega|(simp only [qI,qJ,qK]<;>omega)|exact qL _)) only [go_sem,↓reduceIte,n0,reduceCtorEq,n1,n2,n3,n4,n5,i0,i1,i2,i3,i4,i5,i6,i7,h58,k19])
            have hins := insTag_out (K := K) (by omega : i ≤ out.length) hlo hhi (hbb.1 rfl)
            refine ⟨⟨j + 1,_,css,by omega,?_,?_,?_,?_,rfl,?_,?_,by omega,hext3⟩,?_⟩
            · rfl
            iterate 3 (· simp (disch:=(first|omega|(simp only [qI,qJ,qK]<;>omega)|exact qL _)) only [go_sem,↓reduceIte,n0,reduceCtorEq,n1,n2,n3,n4,n5,i0,i1,i2,i3,i4,i5,i6,i7,k18,k17,k5])
            · simp (disch:=(first|omega|(simp only [qI,qJ,qK]<;>omega)|exact qL _)) only [go_sem,↓reduceIte,n0,reduceCtorEq,n1,n2,n3,n4,n5,i0,i1,i2,i3,i4,i5,i6,i7,k6]
              exact hown3
            · rw [hfold,hins];exact hall
            · simp only [RowKit.intOf];omega
          | false =>
            have hnot : ¬ (t.1 < K ∨ ∃ hi : i < out.length,out[i].1 = t.1) := fun h => by simpa using hbb.2 h
            have hins := insTag_in (K := K) (by omega : i ≤ out.length) hlo hhi (fun h => hnot (.inl h)) (fun h1 h2 => hnot (.inr ⟨h1,h2⟩))
            simp (disch:=(first|omega|(simp only [qI,qJ,qK]<;>omega)|exact qL _)) only [go_sem,↓reduceIte,n0,reduceCtorEq,n1,n2,n3,n4,n5,i0,i1,i2,i3,i4,i5,i6,i7]
            repeat ((first | refine qA rfl ?_|apply qB|refine qC rfl ?_|apply qD|apply qE|apply qF|apply qG|apply qH);try simp (disch:=(first|omega|(simp only [qI,qJ,qK]<;>omega)|exact qL _)) only [go_sem,↓reduceIte,n0,reduceCtorEq,n1,n2,n3,n4,n5,i0,i1,i2,i3,i4,i5,i6,i7,h58,k6])
            refine wp_append ap_24_24 (m := 1) (news := [.int .u32 0,.slice none 0 0]) (n := css.length) (cs := css.flatten) (v := .slice va css.length vc) ?_ rfl (hown3.alloc _).1 ?_ (Src.blk (fr := (0,0)) (T := 55) (blk_alloc_new rfl) rfl rfl) ?_ ?_ ?_
            · simp (disch:=(first|omega|(simp only [qI,qJ,qK]<;>omega)|exact qL _)) only [go_sem,↓reduceIte,n0,reduceCtorEq,n1,n2,n3,n4,n5,i0,i1,i2,i3,i4,i5,i6,i7]
            · exact hall.flat_cells
            · simp only [World.size_alloc];omega
            · omega
            intro v' w4 ho hu hfr
            have hz4 := hu.size
            simp (disch:=(first|omega|(simp only [qI,qJ,qK]<;>omega)|exact qL _)) only [go_sem,↓reduceIte,n0,reduceCtorEq,n1,n2,n3,n4,n5,i0,i1,i2,i3,i4,i5,i6,i7]
            obtain ⟨va',vc',hv',hvc'⟩ := ho.shape
            subst hv'
            have hown4 := OwnE.snoc hown3.2 rfl ho rfl
            have hne : ∀ b,ownB (.slice va' (css.length + 1) vc') b → b ≠ w1.heap.size := fun b hb e => by
              rcases hfr b hb with h | h
              · have := hown.1.below h;omega
              · simp only [World.size_alloc] at h;omega
            have htb4 : blk w4 w1.heap.size = some (#[.int .u32 t.1,vv],55,(0,0)) := hu.blk_some (by rw [blk_alloc_old (by omega)];exact htb) fun h => by have := hown.1.below h;omega
            have hext4 : Ext w w4 := Ext.own (hext3.alloc _) hown3.1 hu
            simp only [World.size_alloc] at hz4
            repeat ((first | refine qA rfl ?_|apply qB|refine qC rfl ?_|apply qD|apply qE|apply qF|apply qG|apply qH);try simp (disch:=(first|omega|(simp only [qI,qJ,qK]<;>omega)|exact qL _)) only [go_sem,↓reduceIte,n0,reduceCtorEq,n1,n2,n3,n4,n5,i0,i1,i2,i3,i4,i5,i6,i7])
            refine W.exitJ 4 (fun ρ' w' => ∃ (c : List Value),c.length = 2 ∧ ρ' 9 = .int .i64 i ∧ UG w N j K w1.heap.size capl (some ⟨b,o,none⟩) (.slice va' (css.length + 1) vc') vv (css.take i ++ c :: css.drop i) t ρ' w')
              (W.loop (fun ρ' w' => ∃ (k : Nat) (c : List Value),c.length = 2 ∧ i ≤ k ∧ k ≤ css.length ∧ ρ' 10 = .int .i64 k ∧ ρ' 9 = .int .i64 i ∧ UG w N j K w1.heap.size capl (some ⟨b,o,none⟩) (.slice va' (css.length + 1) vc') vv (css.take k ++ c :: css.drop k) t ρ' w')
                (fun ρ _ => (RowKit.intOf (ρ 10)).toNat) ?_ ?_) ?_
            · refine ⟨css.length,[.int .u32 0,.slice none 0 0],rfl,hi,Nat.le_refl _,?_,?_,⟨?_,?_,?_,?_,?_,?_,?_,htb4,hext4,by omega⟩⟩
              · simp (disch:=(first|omega|(simp only [qI,qJ,qK]<;>omega)|exact qL _)) only [go_sem,↓reduceIte,n0,reduceCtorEq,n1,n2,n3,n4,n5,i0,i1,i2,i3,i4,i5,i6,i7]
                congr 1;omega
              iterate 7 (· simp (disch:=(first|omega|(simp only [qI,qJ,qK]<;>omega)|exact qL _)) only [go_sem,↓reduceIte,n0,reduceCtorEq,n1,n2,n3,n4,n5,i0,i1,i2,i3,i4,i5,i6,i7,h9,k19,k18,k17,k5,k8])
              · rw [List.take_length,List.drop_length];exact hown4
            · rintro ρ5 w5 ⟨k,c,hc2,hik,hkl,h10,h9,⟨k19,k18,k17,k5,k6,k8,hown5,htb5,hext5,htbl5⟩⟩
              by_cases hgt : i < k
              · obtain ⟨k,rfl⟩ : ∃ k',k = k' + 1 := ⟨k - 1,by omega⟩
                have hsl := shift_len css (k + 1) c
                obtain ⟨g,cap,x2,hv,hcap,hBg,hgl,hgb,hg1,hg2,hg3⟩ := hown5.view (by omega)
                rw [hsl] at hv
                cases hv
                obtain ⟨vv2,hcs,hbv2,h32⟩ := hall.2 k (by omega) (by omega)
                have hx2 := hg2 k (by omega)
                have hx3 := hg1 k (by omega)
                have hx4 := hg1 (k + 1) (by omega)
                rw [shift_get (by omega),hcs] at hx2
                have e1 : ((k + 1 : Nat) : Int) - 1 = (k : Int) := by omega
                have e2 : IntKind.i64.wrap (k : Int) = (k : Int) := i64_wrap (by omega)
                have hf2 := hbv2.flat
                have hne5 := hne g ⟨_,_,_,rfl,rfl⟩
                repeat ((first | refine qA rfl ?_|apply qB|refine qC rfl ?_|apply qD|apply qE|apply qF|apply qG|apply qH);try simp (disch:=(first|omega|(simp only [qI,qJ,qK]<;>omega)|exact qL _)) only [go_sem,↓reduceIte,n0,reduceCtorEq,n1,n2,n3,n4,n5,i0,i1,i2,i3,i4,i5,i6,i7,h10,h9,k6,e1,e2,hgb,hx2,hx3.1,hx4.1,hx4.2,hf2,Int.toNat_natCast])
                have hset := hown5.set (i := k + 1) (c := [.int .u32 out[k].1,vv2]) (by omega) rfl
                rw [← hcs,shift_set (by omega),hcs] at hset
                refine ⟨⟨k,[.int .u32 out[k].1,vv2],rfl,by omega,by omega,rfl,⟨?_,?_,?_,?_,?_,?_,?_,?_,hext5.wr _ _ (.inl (by omega)),by rw [size_wr];exact htbl5⟩⟩,?_⟩
                iterate 6 (· simp (disch:=(first|omega|(simp only [qI,qJ,qK]<;>omega)|exact qL _)) only [go_sem,↓reduceIte,n0,reduceCtorEq,n1,n2,n3,n4,n5,i0,i1,i2,i3,i4,i5,i6,i7,k19,k18,k17,k5,k6,k8])
                · rw [← hcs];rw [← hcs] at hset;exact hset
                · rw [blk_wr_ne (Ne.symm hne5)];exact htb5
                · simp only [RowKit.intOf];omega
              · repeat ((first | refine qA rfl ?_|apply qB|refine qC rfl ?_|apply qD|apply qE|apply qF|apply qG|apply qH);try simp (disch:=(first|omega|(simp only [qI,qJ,qK]<;>omega)|exact qL _)) only [go_sem,↓reduceIte,n0,reduceCtorEq,n1,n2,n3,n4,n5,i0,i1,i2,i3,i4,i5,i6,i7,h10,h9])
                have : k = i := by omega
                subst this
                refine ⟨c,hc2,⟨?_,?_,?_,?_,?_,?_,hown5,htb5,hext5,htbl5⟩⟩
                iterate 6 (· simp (disch:=(first|omega|(simp only [qI,qJ,qK]<;>omega)|exact qL _)) only [go_sem,↓reduceIte,n0,reduceCtorEq,n1,n2,n3,n4,n5,i0,i1,i2,i3,i4,i5,i6,i7,k19,k18,k17,k5,k6,k8])
            · rintro ρ5 w5 ⟨c,hc2,h9,⟨k19,k18,k17,k5,k6,k8,hown5,htb5,hext5,htbl5⟩⟩
              have hsl := shift_len css i c
              obtain ⟨g,cap,x2,hv,hcap,hBg,hgl,hgb,hg1,hg2,hg3⟩ := hown5.view (by omega)
              rw [hsl] at hv
              cases hv
              have hx4 := hg1 i (by omega)
              have hne5 := hne g ⟨_,_,_,rfl,rfl⟩
              have ej : IntKind.i64.wrap ((j : Int) + 1) = ((j + 1 : Nat) : Int) := by rw [i64_wrap (by omega)];rfl
              simp (disch:=(first|omega|(simp only [qI,qJ,qK]<;>omega)|exact qL _)) only [go_sem,↓reduceIte,n0,reduceCtorEq,n1,n2,n3,n4,n5,i0,i1,i2,i3,i4,i5,i6,i7]
              repeat ((first | refine qA rfl ?_|apply qB|refine qC rfl ?_|apply qD|apply qE|apply qF|apply qG|apply qH);try simp (disch:=(first|omega|(simp only [qI,qJ,qK]<;>omega)|exact qL _)) only [go_sem,↓reduceIte,n0,reduceCtorEq,n1,n2,n3,n4,n5,i0,i1,i2,i3,i4,i5,i6,i7,ej,h9,k6,k8,k19,htb5,cellsAt_two,hgb,hx4.1,hx4.2,hfv,Int.toNat_natCast])
              have hset := hown5.set (i := i) (c := [.int .u32 t.1,vv]) (by omega) rfl
              rw [shift_in (by omega)] at hset
              refine ⟨⟨j + 1,_,_,by omega,rfl,k18,k17,k5,rfl,hset,?_,?_,hext5.wr _ _ (.inl (by omega))⟩,?_⟩
              · rw [hfold,hins]
                exact hall.insert (by omega) ⟨vv,rfl,hbv,ht32⟩
              · rw [shift_len];omega
              · simp only [RowKit.intOf];omega
    · repeat ((first | refine qA rfl ?_|apply qB|refine qC rfl ?_|apply qD|apply qE|apply qF|apply qG|apply qH);try simp (disch:=(first|omega|(simp only [qI,qJ,qK]<;>omega)|exact qL _)) only [go_sem,↓reduceIte,n0,reduceCtorEq,n1,n2,n3,n4,n5,i0,i1,i2,i3,i4,i5,i6,i7,h19,h18,h6])
      have : j = N := by omega
      subst this
      rw [← hLl,List.take_length,← hun] at hall
      exact ⟨⟨css,hown,hall⟩,hext⟩

theorem FldC.of {ok : Blocks} {w : World} {f : Fld} {vs : Value} (h : FldsV ok w vs f.sub) : FldC ok w f [.int .i64 f.kind,.int .i64 f.fr,.int .i64 f.to,.int .i64 f.null,.int .i64 f.tag,.int .i64 f.df,.int .i64 f.of,vs] := by
  cases f;exact FldC.intro h

theorem insTag_len (K : Nat) (out : List TagD) (t : TagD) : (insTag K out t).length ≤ out.length + 1 := by
  unfold insTag
  split
  · omega
  · have := congrArg List.length (List.takeWhile_append_dropWhile (p := fun x : TagD => decide (x.1 < t.1)) (l := out))
    simp only [List.length_append,List.length_cons] at this ⊢;omega
theorem unknownS_len (fs : List Fld) (l : List TagD) : (unknownS fs l).length ≤ 32767 := by
  have : ∀ (l : List TagD) (out : List TagD),(l.foldl (insTag (knownS fs)) out).length ≤ out.length + l.length := by
    intro l
    induction l with
    | nil => intro out;simp
    | cons t l ih => intro out;have h1 := ih (insTag (knownS fs) out t);have h2 := insTag_len (knownS fs) out t;simp only [List.foldl_cons,List.length_cons];omega
  have h := this (l.take 32767) []
  simp only [List.length_nil,List.length_take] at h
  unfold unknownS;omega
theorem usual10 {d : Nat} {f : Fld} {t : Tree} (h10 : f.kind = 10) : usualS (d + 1) f t = ((f.sub.zipIdx.all fun x => usualS d x.1 (t.at x.2)) && decide ((unknownS f.sub t.u).length = 0)) := by
  simp [usualS,h10]

abbrev UsualRec (ok : Blocks) (d : Nat) (f : Fld) : Prop := ∀ g ∈ f.sub,∀ (t' : Tree) (cg ct' : List Value) (w' : World),FldC ok w' g cg → TreeC ok w' t' ct' → Small 4611686018427387903 t' →
  Fn Tryz.prog 27 #[.agg cg.toArray,.agg ct'.toArray] w' fun r w'' => r = .bool (usualS d g t') ∧ Ext w' w''

theorem usual_k0 {ok : Blocks} (d : Nat) (f : Fld) (t : Tree) (cf ct : List Value) (w : World) (hf : FldC ok w f cf) (ht : TreeC ok w t ct) (hok : okF d f.sub = true) (hB : okB f) (hsm : Small 4611686018427387903 t)
    (hrec : UsualRec ok d f) (h0 : f.kind = 0) :
    Fn Tryz.prog 27 #[.agg cf.toArray,.agg ct.toArray] w fun r w' => r = .bool (usualS (d + 1) f t) ∧ Ext w w' := by
  obtain ⟨vs,rfl,hsub⟩ := hf.inv
  obtain ⟨vS,vL,vU,rfl,hn,hS,hL,hU⟩ := ht.inv
  have hl1 := hsm.s
  have hl2 := hsm.l
  have f0 := SlR.flat hsub
  have f1 := hS.flat
  have f2 := SlR.flat hL
  have f3 := SlR.flat hU
  obtain ⟨bS,cS,rfl,hcS⟩ := hS.shape
  obtain ⟨bL,cL,rfl,hcL⟩ := SlR.shape hL
  have hE : Ext w ((w.alloc (.cells #[.int .i64 f.kind,.int .i64 f.fr,.int .i64 f.to,.int .i64 f.null,.int .i64 f.tag,.int .i64 f.df,.int .i64 f.of,vs] 45)).alloc (.cells #[.int .i64 t.n,.slice bS t.s.length cS,.bool t.null,.slice bL t.l.length cL,vU] 26)) := Upd.alloc (Upd.alloc (Upd.refl _ _) _) _
  refine fn_of_W Tryz.func27 rfl Tryz.results27 Tryz.ntmps27 rfl ?_
  repeat ((first | refine qA rfl ?_|apply qB|refine qC rfl ?_|apply qD|apply qE|apply qF|apply qG|apply qH);try simp (disch:=(first|omega|(simp only [qI,qJ,qK]<;>omega)|exact qL _)) only [go_sem,↓reduceIte,n0,reduceCtorEq,n1,n2,n3,n4,n5,i0,i1,i2,i3,i4,i5,i6,i7,f0,f1,f2,f3,and1])
  refine ⟨?_,hE⟩
  have e : (((t.n % 2).toNat : Nat) : Int) = t.n % 2 := by omega
  rw [e,usualS,if_pos h0]
  by_cases h : t.n % 2 = f.df <;> simp [h]

theorem usual_k8 {ok : Blocks} (d : Nat) (f : Fld) (t : Tree) (cf ct : List Value) (w : World) (hf : FldC ok w f cf) (ht : TreeC ok w t ct) (hok : okF d f.sub = true) (hB : okB f) (hsm : Small 4611686018427387903 t)
    (hrec : UsualRec ok d f) (h8 : f.kind = 8) :
    Fn Tryz.prog 27 #[.agg cf.toArray,.agg ct.toArray] w fun r w' => r = .bool (usualS (d + 1) f t) ∧ Ext w w' := by
  obtain ⟨vs,rfl,hsub⟩ := hf.inv
  obtain ⟨vS,vL,vU,rfl,hn,hS,hL,hU⟩ := ht.inv
  have hl1 := hsm.s
  have hl2 := hsm.l
  have f0 := SlR.flat hsub
  have f1 := hS.flat
  have f2 := SlR.flat hL
  have f3 := SlR.flat hU
  obtain ⟨bS,cS,rfl,hcS⟩ := hS.shape
  obtain ⟨bL,cL,rfl,hcL⟩ := SlR.shape hL
  have hE : Ext w ((w.alloc (.cells #[.int .i64 f.kind,.int .i64 f.fr,.int .i64 f.to,.int .i64 f.null,.int .i64 f.tag,.int .i64 f.df,.int .i64 f.of,vs] 45)).alloc (.cells #[.int .i64 t.n,.slice bS t.s.length cS,.bool t.null,.slice bL t.l.length cL,vU] 26)) := Upd.alloc (Upd.alloc (Upd.refl _ _) _) _
  refine fn_of_W Tryz.func27 rfl Tryz.results27 Tryz.ntmps27 rfl ?_
  by_cases hnl : 0 ≤ f.null
  · repeat ((first | refine qA rfl ?_|apply qB|refine qC rfl ?_|apply qD|apply qE|apply qF|apply qG|apply qH);try simp (disch:=(first|omega|(simp only [qI,qJ,qK]<;>omega)|exact qL _)) only [go_sem,↓reduceIte,n0,reduceCtorEq,n1,n2,n3,n4,n5,i0,i1,i2,i3,i4,i5,i6,i7,f0,f1,f2,f3])
    refine ⟨?_,hE⟩
    simp [usualS,h8,hnl]
  · repeat ((first | refine qA rfl ?_|apply qB|refine qC rfl ?_|apply qD|apply qE|apply qF|apply qG|apply qH);try simp (disch:=(first|omega|(simp only [qI,qJ,qK]<;>omega)|exact qL _)) only [go_sem,↓reduceIte,n0,reduceCtorEq,n1,n2,n3,n4,n5,i0,i1,i2,i3,i4,i5,i6,i7,f0,f1,f2,f3])
    refine ⟨?_,hE⟩
    by_cases h : t.s.length = 0 <;> simp [usualS,h8,hnl,h]

theorem usual_k9 {ok : Blocks} (d : Nat) (f : Fld) (t : Tree) (cf ct : List Value) (w : World) (hf : FldC ok w f cf) (ht : TreeC ok w t ct) (hok : okF d f.sub = true) (hB : okB f) (hsm : Small 4611686018427387903 t)
    (hrec : UsualRec ok d f) (h9 : f.kind = 9) :
    Fn Tryz.prog 27 #[.agg cf.toArray,.agg ct.toArray] w fun r w' => r = .bool (usualS (d + 1) f t) ∧ Ext w w' := by
  obtain ⟨vs,rfl,hsub⟩ := hf.inv
  obtain ⟨vS,vL,vU,rfl,hn,hS,hL,hU⟩ := ht.inv
  have hl1 := hsm.s
  have hl2 := hsm.l
  have f0 := SlR.flat hsub
  have f1 := hS.flat
  have f2 := SlR.flat hL
  have f3 := SlR.flat hU
  obtain ⟨bS,cS,rfl,hcS⟩ := hS.shape
  obtain ⟨bL,cL,rfl,hcL⟩ := SlR.shape hL
  have hE : Ext w ((w.alloc (.cells #[.int .i64 f.kind,.int .i64 f.fr,.int .i64 f.to,.int .i64 f.null,.int .i64 f.tag,.int .i64 f.df,.int .i64 f.of,vs] 45)).alloc (.cells #[.int .i64 t.n,.slice bS t.s.length cS,.bool t.null,.slice bL t.l.length cL,vU] 26)) := Upd.alloc (Upd.alloc (Upd.refl _ _) _) _
  refine fn_of_W Tryz.func27 rfl Tryz.results27 Tryz.ntmps27 rfl ?_
  by_cases hnl : 0 ≤ f.null
  · repeat ((first | refine qA rfl ?_|apply qB|refine qC rfl ?_|apply qD|apply qE|apply qF|apply qG|apply qH);try simp (disch:=(first|omega|(simp only [qI,qJ,qK]<;>omega)|exact qL _)) only [go_sem,↓reduceIte,n0,reduceCtorEq,n1,n2,n3,n4,n5,i0,i1,i2,i3,i4,i5,i6,i7,f0,f1,f2,f3])
    refine ⟨?_,hE⟩
    simp [usualS,h9,hnl]
  · repeat ((first | refine qA rfl ?_|apply qB|refine qC rfl ?_|apply qD|apply qE|apply qF|apply qG|apply qH);try simp (disch:=(first|omega|(simp only [qI,qJ,qK]<;>omega)|exact qL _)) only [go_sem,↓reduceIte,n0,reduceCtorEq,n1,n2,n3,n4,n5,i0,i1,i2,i3,i4,i5,i6,i7,f0,f1,f2,f3])
    refine ⟨?_,hE⟩
    by_cases h : t.s.length = 0 <;> simp [usualS,h9,hnl,h]

theorem usual_k11 {ok : Blocks} (d : Nat) (f : Fld) (t : Tree) (cf ct : List Value) (w : World) (hf : FldC ok w f cf) (ht : TreeC ok w t ct) (hok : okF d f.sub = true) (hB : okB f) (hsm : Small 4611686018427387903 t)
    (hrec : UsualRec ok d f) (h11 : f.kind = 11) :
    Fn Tryz.prog 27 #[.agg cf.toArray,.agg ct.toArray] w fun r w' => r = .bool (usualS (d + 1) f t) ∧ Ext w w' := by
  obtain ⟨vs,rfl,hsub⟩ := hf.inv
  obtain ⟨vS,vL,vU,rfl,hn,hS,hL,hU⟩ := ht.inv
  have hl1 := hsm.s
  have hl2 := hsm.l
  have f0 := SlR.flat hsub
  have f1 := hS.flat
  have f2 := SlR.flat hL
  have f3 := SlR.flat hU
  obtain ⟨bS,cS,rfl,hcS⟩ := hS.shape
  obtain ⟨bL,cL,rfl,hcL⟩ := SlR.shape hL
  have hE : Ext w ((w.alloc (.cells #[.int .i64 f.kind,.int .i64 f.fr,.int .i64 f.to,.int .i64 f.null,.int .i64 f.tag,.int .i64 f.df,.int .i64 f.of,vs] 45)).alloc (.cells #[.int .i64 t.n,.slice bS t.s.length cS,.bool t.null,.slice bL t.l.length cL,vU] 26)) := Upd.alloc (Upd.alloc (Upd.refl _ _) _) _
  refine fn_of_W Tryz.func27 rfl Tryz.results27 Tryz.ntmps27 rfl ?_
  repeat ((first | refine qA rfl ?_|apply qB|refine qC rfl ?_|apply qD|apply qE|apply qF|apply qG|apply qH);try simp (disch:=(first|omega|(simp only [qI,qJ,qK]<;>omega)|exact qL _)) only [go_sem,↓reduceIte,n0,reduceCtorEq,n1,n2,n3,n4,n5,i0,i1,i2,i3,i4,i5,i6,i7,f0,f1,f2,f3])
  refine ⟨?_,hE⟩
  by_cases h : t.l.length = 0 <;> simp [usualS,h11,h]

theorem usual_k7 {ok : Blocks} (d : Nat) (f : Fld) (t : Tree) (cf ct : List Value) (w : World) (hf : FldC ok w f cf) (ht : TreeC ok w t ct) (hok : okF d f.sub = true) (hB : okB f) (hsm : Small 4611686018427387903 t)
    (hrec : UsualRec ok d f) (h7 : f.kind = 7) :
    Fn Tryz.prog 27 #[.agg cf.toArray,.agg ct.toArray] w fun r w' => r = .bool (usualS (d + 1) f t) ∧ Ext w w' := by
  obtain ⟨vs,rfl,hsub⟩ := hf.inv
  obtain ⟨vS,vL,vU,rfl,hn,hS,hL,hU⟩ := ht.inv
  have hl1 := hsm.s
  have hl2 := hsm.l
  have f0 := SlR.flat hsub
  have f1 := hS.flat
  have f2 := SlR.flat hL
  have f3 := SlR.flat hU
  obtain ⟨bS,cS,rfl,hcS⟩ := hS.shape
  obtain ⟨bL,cL,rfl,hcL⟩ := SlR.shape hL
  have hE : Ext w ((w.alloc (.cells #[.int .i64 f.kind,.int .i64 f.fr,.int .i64 f.to,.int .i64 f.null,.int .i64 f.tag,.int .i64 f.df,.int .i64 f.of,vs] 45)).alloc (.cells #[.int .i64 t.n,.slice bS t.s.length cS,.bool t.null,.slice bL t.l.length cL,vU] 26)) := Upd.alloc (Upd.alloc (Upd.refl _ _) _) _
  refine fn_of_W Tryz.func27 rfl Tryz.results27 Tryz.ntmps27 rfl ?_
  repeat ((first | refine qA rfl ?_|apply qB|refine qC rfl ?_|apply qD|apply qE|apply qF|apply qG|apply qH);try simp (disch:=(first|omega|(simp only [qI,qJ,qK]<;>omega)|exact qL _)) only [go_sem,↓reduceIte,n0,reduceCtorEq,n1,n2,n3,n4,n5,i0,i1,i2,i3,i4,i5,i6,i7,f0,f1,f2,f3])
  generalize hw2 : (w.alloc (.cells #[.int .i64 f.kind,.int .i64 f.fr,.int .i64 f.to,.int .i64 f.null,.int .i64 f.tag,.int .i64 f.df,.int .i64 f.of,vs] 45)).alloc (.cells #[.int .i64 t.n,.slice bS t.s.length cS,.bool t.null,.slice bL t.l.length cL,vU] 26) = w2 at *
  refine W.loop (fun ρ w' => ∃ j : Nat,j ≤ t.s.length ∧ ρ 24 = .int .i64 j ∧ ρ 23 = .int .i64 t.s.length ∧ ρ 22 = .slice bS t.s.length cS ∧ Ext w w' ∧ ∀ k (hk : k < t.s.length),k < j → k < 16 → t.s[k] = 0)
    (fun ρ _ => t.s.length - (RowKit.intOf (ρ 24)).toNat) ?_ ?_
  · refine ⟨0,Nat.zero_le _,?_,?_,?_,hE,fun k hk h => by omega⟩
    · simp (disch:=(first|omega|(simp only [qI,qJ,qK]<;>omega)|exact qL _)) only [go_sem,↓reduceIte,n0,reduceCtorEq,n1,n2,n3,n4,n5,i0,i1,i2,i3,i4,i5,i6,i7]
      rfl
    · simp (disch:=(first|omega|(simp only [qI,qJ,qK]<;>omega)|exact qL _)) only [go_sem,↓reduceIte,n0,reduceCtorEq,n1,n2,n3,n4,n5,i0,i1,i2,i3,i4,i5,i6,i7]
    · simp (disch:=(first|omega|(simp only [qI,qJ,qK]<;>omega)|exact qL _)) only [go_sem,↓reduceIte,n0,reduceCtorEq,n1,n2,n3,n4,n5,i0,i1,i2,i3,i4,i5,i6,i7]
  · rintro ρ w3 ⟨j,hj,h24,h23,h22,hext,hz⟩
    by_cases hlt : j < t.s.length
    · obtain ⟨_,b,o,x,hb,_,hx,hblt,hval⟩ := hS.get hlt
      subst hb
      have hx3 : blk w3 b = some x := hext.blk_some hx id
      have hgo : ∀ hne : ¬ (j < 16 ∧ t.s[j] ≠ 0),∀ k (hk : k < t.s.length),k < j + 1 → k < 16 → t.s[k] = 0 := by
        intro hne k hk hk1 hk2
        rcases Nat.lt_or_ge k j with h | h
        · exact hz k hk h hk2
        · have : k = j := by omega
          subst this
          exact Classical.byContradiction fun e => hne ⟨hk2,e⟩
      by_cases h16 : j < 16
      · by_cases hz0 : t.s[j] = 0
        · have hne : ((t.s[j].toNat : Int)) = 0 := by rw [hz0];rfl
          repeat ((first | refine qA rfl ?_|apply qB|refine qC rfl ?_|apply qD|apply qE|apply qF|apply qG|apply qH);try simp (disch:=(first|omega|(simp only [qI,qJ,qK]<;>omega)|exact qL _)) only [go_sem,↓reduceIte,n0,reduceCtorEq,n1,n2,n3,n4,n5,i0,i1,i2,i3,i4,i5,i6,i7,h24,h23,h22,hx3,hval,byteV,hne,Int.toNat_natCast,Nat.mul_one])
          refine ⟨⟨j + 1,by omega,rfl,hext,hgo (fun h => h.2 hz0)⟩,?_⟩
          simp only [RowKit.intOf];omega
        · have hne : ((t.s[j].toNat : Int)) ≠ 0 := fun e => hz0 (UInt8.toNat_inj.1 (show t.s[j].toNat = 0 by omega))
          repeat ((first | refine qA rfl ?_|apply qB|refine qC rfl ?_|apply qD|apply qE|apply qF|apply qG|apply qH);try simp (disch:=(first|omega|(simp only [qI,qJ,qK]<;>omega)|exact qL _)) only [go_sem,↓reduceIte,n0,reduceCtorEq,n1,n2,n3,n4,n5,i0,i1,i2,i3,i4,i5,i6,i7,h24,h23,h22,hx3,hval,byteV,hne,Int.toNat_natCast,Nat.mul_one])
          refine ⟨?_,hext⟩
          have : (t.s.take 16).all (· == 0) = false := by
            rw [List.all_eq_false]
            refine ⟨t.s[j],?_,by simpa using hz0⟩
            rw [List.mem_take_iff_getElem]
            exact ⟨j,by omega,rfl⟩
          simp [usualS,h7,this]
      · repeat ((first | refine qA rfl ?_|apply qB|refine qC rfl ?_|apply qD|apply qE|apply qF|apply qG|apply qH);try simp (disch:=(first|omega|(simp only [qI,qJ,qK]<;>omega)|exact qL _)) only [go_sem,↓reduceIte,n0,reduceCtorEq,n1,n2,n3,n4,n5,i0,i1,i2,i3,i4,i5,i6,i7,h24,h23,h22,hx3,hval,byteV,Int.toNat_natCast,Nat.mul_one])
        refine ⟨⟨j + 1,by omega,rfl,hext,hgo (fun h => h16 h.1)⟩,?_⟩
        simp only [RowKit.intOf];omega
    · repeat ((first | refine qA rfl ?_|apply qB|refine qC rfl ?_|apply qD|apply qE|apply qF|apply qG|apply qH);try simp (disch:=(first|omega|(simp only [qI,qJ,qK]<;>omega)|exact qL _)) only [go_sem,↓reduceIte,n0,reduceCtorEq,n1,n2,n3,n4,n5,i0,i1,i2,i3,i4,i5,i6,i7,h24,h23])
      refine ⟨?_,hext⟩
      have : (t.s.take 16).all (· == 0) = true := by
        rw [List.all_eq_true]
        intro y hy
        obtain ⟨k,hk,rfl⟩ := List.mem_take_iff_getElem.1 hy
        simpa using hz k (by omega) (by omega) (by omega)
      simp [usualS,h7,this]

theorem usual_k10 {ok : Blocks} (d : Nat) (f : Fld) (t : Tree) (cf ct : List Value) (w : World) (hf : FldC ok w f cf) (ht : TreeC ok w t ct) (hok : okF d f.sub = true) (hB : okB f) (hsm : Small 4611686018427387903 t)
    (hrec : UsualRec ok d f) (h10 : f.kind = 10) :
    Fn Tryz.prog 27 #[.agg cf.toArray,.agg ct.toArray] w fun r w' => r = .bool (usualS (d + 1) f t) ∧ Ext w w' := by
  obtain ⟨vs,rfl,hsub⟩ := hf.inv
  obtain ⟨vS,vL,vU,rfl,hn,hS,hL,hU⟩ := ht.inv
  have hl1 := hsm.s
  have hl2 := hsm.l
  have f0 := SlR.flat hsub
  have f1 := hS.flat
  have f2 := SlR.flat hL
  have f3 := SlR.flat hU
  obtain ⟨bS,cS,rfl,hcS⟩ := hS.shape
  obtain ⟨bL,cL,rfl,hcL⟩ := SlR.shape hL
  have hE : Ext w ((w.alloc (.cells #[.int .i64 f.kind,.int .i64 f.fr,.int .i64 f.to,.int .i64 f.null,.int .i64 f.tag,.int .i64 f.df,.int .i64 f.of,vs] 45)).alloc (.cells #[.int .i64 t.n,.slice bS t.s.length cS,.bool t.null,.slice bL t.l.length cL,vU] 26)) := Upd.alloc (Upd.alloc (Upd.refl _ _) _) _
  refine fn_of_W Tryz.func27 rfl Tryz.results27 Tryz.ntmps27 rfl ?_
  obtain ⟨bf,cf,rfl,hcf⟩ := SlR.shape hsub
  have hfl := okF_len hok
  repeat ((first | refine qA rfl ?_|apply qB|refine qC rfl ?_|apply qD|apply qE|apply qF|apply qG|apply qH);try simp (disch:=(first|omega|(simp only [qI,qJ,qK]<;>omega)|exact qL _)) only [go_sem,↓reduceIte,n0,reduceCtorEq,n1,n2,n3,n4,n5,i0,i1,i2,i3,i4,i5,i6,i7,f0,f1,f2,f3])
  generalize hw2 : (w.alloc (.cells #[.int .i64 f.kind,.int .i64 f.fr,.int .i64 f.to,.int .i64 f.null,.int .i64 f.tag,.int .i64 f.df,.int .i64 f.of,.slice bf f.sub.length cf] 45)).alloc (.cells #[.int .i64 t.n,.slice bS t.s.length cS,.bool t.null,.slice bL t.l.length cL,vU] 26) = w2 at *
  have hb0 : blk w2 w.heap.size = some (#[.int .i64 f.kind,.int .i64 f.fr,.int .i64 f.to,.int .i64 f.null,.int .i64 f.tag,.int .i64 f.df,.int .i64 f.of,.slice bf f.sub.length cf],45,(0,0)) := by
    rw [← hw2,blk_alloc_old (by simp only [World.size_alloc];omega),blk_alloc_new rfl]
  have hb1 : blk w2 (w.heap.size + 1) = some (#[.int .i64 t.n,.slice bS t.s.length cS,.bool t.null,.slice bL t.l.length cL,vU],26,(0,0)) := by
    rw [← hw2,blk_alloc_new (by simp only [World.size_alloc])]
  have hz2 : w2.heap.size = w.heap.size + 2 := by rw [← hw2];simp only [World.size_alloc]
  clear hw2
  refine W.loop (fun ρ w' => ∃ j : Nat,j ≤ f.sub.length ∧ ρ 59 = .int .i64 j ∧ ρ 58 = .int .i64 f.sub.length ∧ ρ 57 = .slice bf f.sub.length cf ∧ ρ 2 = .pointer (some ⟨w.heap.size,0,none⟩) ∧ ρ 3 = .pointer (some ⟨w.heap.size + 1,0,none⟩) ∧ Ext w2 w' ∧ ∀ k (hk : k < f.sub.length),k < j → usualS d f.sub[k] (t.at k) = true)
    (fun ρ _ => f.sub.length - (RowKit.intOf (ρ 59)).toNat) ?_ ?_
  · refine ⟨0,Nat.zero_le _,?_,?_,?_,?_,?_,Upd.refl _ _,fun k hk h => by omega⟩
    · simp (disch:=(first|omega|(simp only [qI,qJ,qK]<;>omega)|exact qL _)) only [go_sem,↓reduceIte,n0,reduceCtorEq,n1,n2,n3,n4,n5,i0,i1,i2,i3,i4,i5,i6,i7]
      rfl
    iterate 4 (· simp (disch:=(first|omega|(simp only [qI,qJ,qK]<;>omega)|exact qL _)) only [go_sem,↓reduceIte,n0,reduceCtorEq,n1,n2,n3,n4,n5,i0,i1,i2,i3,i4,i5,i6,i7])
  · rintro ρ w3 ⟨j,hj,h59,h58,h57,h2,h3,hext,hz⟩
    have hz3 := hext.size
    have hext0 : Ext w w3 := hE.trans hext
    by_cases hlt : j < f.sub.length
    · obtain ⟨_,b,o,x,vs2,hb,hokb,hx,hblt,hxs,hxe,hfl2,hsub2⟩ := FldsV.get hsub hlt
      subst hb
      have hx3 : blk w3 b = some x := hext0.blk_some hx id
      have hb13 := hext.blk_some hb1 id
      repeat ((first | refine qA rfl ?_|apply qB|refine qC rfl ?_|apply qD|apply qE|apply qF|apply qG|apply qH);try simp (disch:=(first|omega|(simp only [qI,qJ,qK]<;>omega)|exact qL _)) only [go_sem,↓reduceIte,n0,reduceCtorEq,n1,n2,n3,n4,n5,i0,i1,i2,i3,i4,i5,i6,i7,h59,h58,h57,hx3,hxe,hfl2,Int.toNat_natCast])
      refine W.drawR (.take 0 (.take 1 (.take 2 (.only 3 (.only 4 (.take 5 .done)))))) NoB mixed (by kernel_rfl) ?_
      simp (disch:=(first|omega|(simp only [qI,qJ,qK]<;>omega)|exact qL _)) only [go_sem,↓reduceIte,n0,reduceCtorEq,n1,n2,n3,n4,n5,i0,i1,i2,i3,i4,i5,i6,i7,h2,h3,hb13,cellsAt_five,cellsAt_eight]
      have hE4 : Ext w3 (wr (w3.alloc (.cells #[.int .i64 0,.int .i64 0,.int .i64 0,.int .i64 0,.int .i64 0,.int .i64 0,.int .i64 0,.slice none 0 0] 45)) w3.heap.size 0 [.int .i64 f.sub[j].kind,.int .i64 f.sub[j].fr,.int .i64 f.sub[j].to,.int .i64 f.sub[j].null,.int .i64 f.sub[j].tag,.int .i64 f.sub[j].df,.int .i64 f.sub[j].of,vs2]).drew :=
        ((Upd.alloc (Upd.refl _ _) _).wr _ _ (.inl (Nat.le_refl _))).drew
      generalize (wr (w3.alloc (.cells #[.int .i64 0,.int .i64 0,.int .i64 0,.int .i64 0,.int .i64 0,.int .i64 0,.int .i64 0,.slice none 0 0] 45)) w3.heap.size 0 [.int .i64 f.sub[j].kind,.int .i64 f.sub[j].fr,.int .i64 f.sub[j].to,.int .i64 f.sub[j].null,.int .i64 f.sub[j].tag,.int .i64 f.sub[j].df,.int .i64 f.sub[j].of,vs2]).drew = w4 at *
      refine (at_fn t j _ w4 (ht.keep (Ext.keeps (hext0.trans hE4) _)) (by omega) (by omega)).mono ?_
      rintro v5 w5 ⟨⟨c5,rfl,hc5⟩,hE5⟩
      refine ⟨hE5,?_⟩
      have hE05 : Ext w w5 := (hext0.trans hE4).trans hE5
      refine (hrec f.sub[j] (List.getElem_mem hlt) (t.at j) _ _ w5 (FldC.of (hsub2.keep (hE05.keeps _))) hc5 (hsm.at j)).mono ?_
      rintro v6 w6 ⟨rfl,hE6⟩
      refine ⟨hE5.trans hE6,?_⟩
      have hE26 : Ext w2 w6 := ((hext.trans hE4).trans hE5).trans hE6
      by_cases hr : usualS d f.sub[j] (t.at j) = true
      · simp (disch:=(first|omega|(simp only [qI,qJ,qK]<;>omega)|exact qL _)) only [go_sem,↓reduceIte,n0,reduceCtorEq,n1,n2,n3,n4,n5,i0,i1,i2,i3,i4,i5,i6,i7,hr]
        repeat ((first | refine qA rfl ?_|apply qB|refine qC rfl ?_|apply qD|apply qE|apply qF|apply qG|apply qH);try simp (disch:=(first|omega|(simp only [qI,qJ,qK]<;>omega)|exact qL _)) only [go_sem,↓reduceIte,n0,reduceCtorEq,n1,n2,n3,n4,n5,i0,i1,i2,i3,i4,i5,i6,i7,h59,hr])
        refine ⟨⟨j + 1,by omega,rfl,h58,h57,h2,h3,hE26,fun k hk hk1 => ?_⟩,?_⟩
        · rcases Nat.lt_or_ge k j with h | h
          · exact hz k hk h
          · have : k = j := by omega
            subst this;exact hr
        · simp only [RowKit.intOf];omega
      · have hr' : usualS d f.sub[j] (t.at j) = false := by simpa using hr
        simp (disch:=(first|omega|(simp only [qI,qJ,qK]<;>omega)|exact qL _)) only [go_sem,↓reduceIte,n0,reduceCtorEq,n1,n2,n3,n4,n5,i0,i1,i2,i3,i4,i5,i6,i7,hr']
        repeat ((first | refine qA rfl ?_|apply qB|refine qC rfl ?_|apply qD|apply qE|apply qF|apply qG|apply qH);try simp (disch:=(first|omega|(simp only [qI,qJ,qK]<;>omega)|exact qL _)) only [go_sem,↓reduceIte,n0,reduceCtorEq,n1,n2,n3,n4,n5,i0,i1,i2,i3,i4,i5,i6,i7,h59,hr'])
        refine ⟨?_,hE05.trans hE6⟩
        have hall : (f.sub.zipIdx.all fun x => usualS d x.1 (t.at x.2)) = false := by
          cases e : (f.sub.zipIdx.all fun x => usualS d x.1 (t.at x.2)) with
          | false => rfl
          | true => exact absurd ((zipIdx_all _ _).1 e j hlt) hr
        rw [usual10 h10,hall];rfl
    · have hb03 := hext.blk_some hb0 id
      have hb13 := hext.blk_some hb1 id
      repeat ((first | refine qA rfl ?_|apply qB|refine qC rfl ?_|apply qD|apply qE|apply qF|apply qG|apply qH);try simp (disch:=(first|omega|(simp only [qI,qJ,qK]<;>omega)|exact qL _)) only [go_sem,↓reduceIte,n0,reduceCtorEq,n1,n2,n3,n4,n5,i0,i1,i2,i3,i4,i5,i6,i7,h59,h58,h2,h3,hb03,hb13])
      refine (unknown_fn f.sub _ t.u _ w3 (hsub.keep (hext0.keeps _)) hfl (okF_tag hok) (hU.keep (hext0.keeps _))).mono ?_
      rintro v5 w5 ⟨⟨css,hown,hall⟩,hE5⟩
      obtain ⟨va,vc,rfl,hvc⟩ := hown.shape
      have hcl := hall.1
      have hul := unknownS_len f.sub t.u
      have hall : (f.sub.zipIdx.all fun x => usualS d x.1 (t.at x.2)) = true := (zipIdx_all _ _).2 fun i hi => hz i hi (by omega)
      by_cases hz0 : css.length = 0
      · simp (disch:=(first|omega|(simp only [qI,qJ,qK]<;>omega)|exact qL _)) only [go_sem,↓reduceIte,n0,reduceCtorEq,n1,n2,n3,n4,n5,i0,i1,i2,i3,i4,i5,i6,i7]
        repeat ((first | refine qA rfl ?_|apply qB|refine qC rfl ?_|apply qD|apply qE|apply qF|apply qG|apply qH);try simp (disch:=(first|omega|(simp only [qI,qJ,qK]<;>omega)|exact qL _)) only [go_sem,↓reduceIte,n0,reduceCtorEq,n1,n2,n3,n4,n5,i0,i1,i2,i3,i4,i5,i6,i7])
        exact ⟨by rw [usual10 h10,hall,hcl,hz0];rfl,hext0.trans hE5⟩
      · simp (disch:=(first|omega|(simp only [qI,qJ,qK]<;>omega)|exact qL _)) only [go_sem,↓reduceIte,n0,reduceCtorEq,n1,n2,n3,n4,n5,i0,i1,i2,i3,i4,i5,i6,i7]
        repeat ((first | refine qA rfl ?_|apply qB|refine qC rfl ?_|apply qD|apply qE|apply qF|apply qG|apply qH);try simp (disch:=(first|omega|(simp only [qI,qJ,qK]<;>omega)|exact qL _)) only [go_sem,↓reduceIte,n0,reduceCtorEq,n1,n2,n3,n4,n5,i0,i1,i2,i3,i4,i5,i6,i7])
        exact ⟨by rw [usual10 h10,hall,hcl];simp [hz0],hext0.trans hE5⟩

theorem usual_kd {ok : Blocks} (d : Nat) (f : Fld) (t : Tree) (cf ct : List Value) (w : World) (hf : FldC ok w f cf) (ht : TreeC ok w t ct) (hok : okF d f.sub = true) (hB : okB f) (hsm : Small 4611686018427387903 t)
    (hrec : UsualRec ok d f) (h0 : f.kind ≠ 0) (h7 : f.kind ≠ 7) (h8 : f.kind ≠ 8) (h9 : f.kind ≠ 9) (h11 : f.kind ≠ 11) (h10 : f.kind ≠ 10) :
    Fn Tryz.prog 27 #[.agg cf.toArray,.agg ct.toArray] w fun r w' => r = .bool (usualS (d + 1) f t) ∧ Ext w w' := by
  obtain ⟨vs,rfl,hsub⟩ := hf.inv
  obtain ⟨vS,vL,vU,rfl,hn,hS,hL,hU⟩ := ht.inv
  have hl1 := hsm.s
  have hl2 := hsm.l
  have f0 := SlR.flat hsub
  have f1 := hS.flat
  have f2 := SlR.flat hL
  have f3 := SlR.flat hU
  obtain ⟨bS,cS,rfl,hcS⟩ := hS.shape
  obtain ⟨bL,cL,rfl,hcL⟩ := SlR.shape hL
  have hE : Ext w ((w.alloc (.cells #[.int .i64 f.kind,.int .i64 f.fr,.int .i64 f.to,.int .i64 f.null,.int .i64 f.tag,.int .i64 f.df,.int .i64 f.of,vs] 45)).alloc (.cells #[.int .i64 t.n,.slice bS t.s.length cS,.bool t.null,.slice bL t.l.length cL,vU] 26)) := Upd.alloc (Upd.alloc (Upd.refl _ _) _) _
  refine fn_of_W Tryz.func27 rfl Tryz.results27 Tryz.ntmps27 rfl ?_
  repeat ((first | refine qA rfl ?_|apply qB|refine qC rfl ?_|apply qD|apply qE|apply qF|apply qG|apply qH);try simp (disch:=(first|omega|(simp only [qI,qJ,qK]<;>omega)|exact qL _)) only [go_sem,↓reduceIte,n0,reduceCtorEq,n1,n2,n3,n4,n5,i0,i1,i2,i3,i4,i5,i6,i7,f0,f1,f2,f3])
  refine W.drawR (.take 0 (.take 1 (.take 2 (.take 3 (.take 6 (.take 7 (.take 8 (.take 9 (.only 4 (.only 5 (.only 10 (.only 11 (.only 12 (.only 13 .done)))))))))))))) NoB mixed (by kernel_rfl) ?_
  simp (disch:=(first|omega|(simp only [qI,qJ,qK]<;>omega)|exact qL _)) only [go_sem,↓reduceIte,n0,reduceCtorEq,n1,n2,n3,n4,n5,i0,i1,i2,i3,i4,i5,i6,i7,f0,f1,f2,f3]
  have hw4 := hE.drew
  generalize ((w.alloc (.cells #[.int .i64 f.kind,.int .i64 f.fr,.int .i64 f.to,.int .i64 f.null,.int .i64 f.tag,.int .i64 f.df,.int .i64 f.of,vs] 45)).alloc (.cells #[.int .i64 t.n,.slice bS t.s.length cS,.bool t.null,.slice bL t.l.length cL,vU] 26)).drew = w4 at *
  refine (Width_fn f.kind _).mono ?_
  rintro _ _ ⟨rfl,rfl⟩
  refine ⟨Upd.refl _ _,?_⟩
  refine (Fixed_fn t.n (widthS f.kind) (widthS_le _) _).mono ?_
  rintro v5 w5 ⟨ho5,he5⟩
  refine ⟨he5,?_⟩
  refine (Width_fn f.kind _).mono ?_
  rintro _ _ ⟨rfl,rfl⟩
  refine ⟨he5,?_⟩
  refine (Fixed_fn f.df (widthS f.kind) (widthS_le _) _).mono ?_
  rintro v6 w6 ⟨ho6,he6⟩
  refine ⟨he5.trans he6,?_⟩
  have hle := widthS_le f.kind
  refine (Same_fn (ok := AnyB) _ _ v5 v6 w6 ((Own.bytes ho5 fun _ _ => trivial).keep (he6.keeps _)) (Own.bytes ho6 fun _ _ => trivial) (by rw [fixedS_len];omega)).mono ?_
  rintro v7 w7 ⟨rfl,he7⟩
  refine ⟨(he5.trans he6).trans he7,(he5.trans he6).trans he7,?_⟩
  repeat ((first | refine qA rfl ?_|apply qB|refine qC rfl ?_|apply qD|apply qE|apply qF|apply qG|apply qH);try simp (disch:=(first|omega|(simp only [qI,qJ,qK]<;>omega)|exact qL _)) only [go_sem,↓reduceIte,n0,reduceCtorEq,n1,n2,n3,n4,n5,i0,i1,i2,i3,i4,i5,i6,i7])
  refine ⟨?_,((hw4.trans he5).trans he6).trans he7⟩
  simp [usualS,h0,h7,h8,h9,h10,h11]

theorem usual_fn {ok : Blocks} (d : Nat) : ∀ (f : Fld) (t : Tree) (cf ct : List Value) (w : World),FldC ok w f cf → TreeC ok w t ct → okF d f.sub = true → okB f → Small 4611686018427387903 t →
    Fn Tryz.prog 27 #[.agg cf.toArray,.agg ct.toArray] w fun r w' => r = .bool (usualS (d + 1) f t) ∧ Ext w w' := by
  induction d using Nat.strongRecOn with
  | _ d ih =>
  intro f t cf ct w hf ht hok hB hsm
  have hrec : UsualRec ok d f := fun g hg t' cg ct' w' h1 h2 h3 => by
    obtain ⟨e,rfl,h4,h5⟩ := okF_el hok hg
    exact ih e (by omega) g t' cg ct' w' h1 h2 h5 h4 h3
  by_cases h0 : f.kind = 0
  · exact usual_k0 d f t cf ct w hf ht hok hB hsm hrec h0
  by_cases h7 : f.kind = 7
  · exact usual_k7 d f t cf ct w hf ht hok hB hsm hrec h7
  by_cases h8 : f.kind = 8
  · exact usual_k8 d f t cf ct w hf ht hok hB hsm hrec h8
  by_cases h9 : f.kind = 9
  · exact usual_k9 d f t cf ct w hf ht hok hB hsm hrec h9
  by_cases h11 : f.kind = 11
  · exact usual_k11 d f t cf ct w hf ht hok hB hsm hrec h11
  by_cases h10 : f.kind = 10
  · exact usual_k10 d f t cf ct w hf ht hok hB hsm hrec h10
  exact usual_kd d f t cf ct w hf ht hok hB hsm hrec h0 h7 h8 h9 h11 h10

theorem countedS_len (flex null : Bool) (n k : Nat) (hk : k ≤ 8) (hn : n < 4611686018427387904) : (countedS flex null n k).length ≤ 10 := by
  unfold countedS
  split
  · simp
  · split
    · exact uvarS_len 9 (n + 1) (by omega)
    · split <;> rw [fixedS_len] <;> omega

theorem value_k0 {ok : Blocks} (pt : List Fld → Int → Bool → Tree → List UInt8) (kind : Int) (sub : List Fld) (null : Bool) (ver : Int) (flex : Bool) (t : Tree) (vs : Value) (ct : List Value) (w : World) (hs : FldsV ok w vs sub) (ht : TreeC ok w t ct) (hsm : Small 4611686018427387903 t)
    (hlen : (valueS pt kind sub null ver flex t).length ≤ 2 ^ 40) (h0 : kind = 0) :
    Fn Tryz.prog 50 #[.int .i64 kind,vs,.bool null,.int .i64 ver,.bool flex,.agg ct.toArray] w fun r w' => OwnBy 5 w.heap.size w' r (valueS pt kind sub null ver flex t) ∧ Ext w w' := by
  obtain ⟨vS,vL,vU,rfl,hn,hS,hL,hU⟩ := ht.inv
  have hl1 := hsm.s
  have hl2 := hsm.l
  have f1 := hS.flat
  have f2 := SlR.flat hL
  have f3 := SlR.flat hU
  obtain ⟨bS,cS,rfl,hcS⟩ := hS.shape
  have hE : Ext w (w.alloc (.cells #[.int .i64 t.n,.slice bS t.s.length cS,.bool t.null,vL,vU] 26)) := Upd.alloc (Upd.refl _ _) _
  refine fn_of_W Tryz.func50 rfl Tryz.results50 Tryz.ntmps50 rfl ?_
  subst h0
  repeat ((first | refine qA rfl ?_|apply qB|refine qC rfl ?_|apply qD|apply qE|apply qF|apply qG|apply qH);try simp (disch:=(first|omega|(simp only [qI,qJ,qK]<;>omega)|exact qL _)) only [go_sem,↓reduceIte,n0,reduceCtorEq,n1,n2,n3,n4,n5,i0,i1,i2,i3,i4,i5,i6,i7,f1,f2,f3,and1,u8_byte])
  refine ⟨?_,hE.alloc _⟩
  have e : (((t.n % 2).toNat : Nat) : Int) = t.n % 2 := by omega
  rw [e]
  exact Own.blk (n := 1) (cs := [byteV (b8 (t.n % 2))]) (blk_alloc_new (by simp only [World.size_alloc])) rfl (by omega)

theorem value_k8 {ok : Blocks} (pt : List Fld → Int → Bool → Tree → List UInt8) (kind : Int) (sub : List Fld) (null : Bool) (ver : Int) (flex : Bool) (t : Tree) (vs : Value) (ct : List Value) (w : World) (hs : FldsV ok w vs sub) (ht : TreeC ok w t ct) (hsm : Small 4611686018427387903 t)
    (hlen : (valueS pt kind sub null ver flex t).length ≤ 2 ^ 40) (h8 : kind = 8) :
    Fn Tryz.prog 50 #[.int .i64 kind,vs,.bool null,.int .i64 ver,.bool flex,.agg ct.toArray] w fun r w' => OwnBy 5 w.heap.size w' r (valueS pt kind sub null ver flex t) ∧ Ext w w' := by
  obtain ⟨vS,vL,vU,rfl,hn,hS,hL,hU⟩ := ht.inv
  have hl1 := hsm.s
  have hl2 := hsm.l
  have f1 := hS.flat
  have f2 := SlR.flat hL
  have f3 := SlR.flat hU
  obtain ⟨bS,cS,rfl,hcS⟩ := hS.shape
  have hE : Ext w (w.alloc (.cells #[.int .i64 t.n,.slice bS t.s.length cS,.bool t.null,vL,vU] 26)) := Upd.alloc (Upd.refl _ _) _
  refine fn_of_W Tryz.func50 rfl Tryz.results50 Tryz.ntmps50 rfl ?_
  subst h8
  have hwl : (wholeS t.s).length ≤ 32767 := by simp only [wholeS,List.length_take];omega
  repeat ((first | refine qA rfl ?_|apply qB|refine qC rfl ?_|apply qD|apply qE|apply qF|apply qG|apply qH);try simp (disch:=(first|omega|(simp only [qI,qJ,qK]<;>omega)|exact qL _)) only [go_sem,↓reduceIte,n0,reduceCtorEq,n1,n2,n3,n4,n5,i0,i1,i2,i3,i4,i5,i6,i7,f1,f2,f3])
  refine (whole_fn t.s _ _ (hS.keep (hE.keeps _))).mono ?_
  rintro v1 w1 ⟨hw1,rfl⟩
  obtain ⟨b1,c1,rfl,hc1⟩ := hw1.shape
  cases null with
  | true =>
    repeat ((first | refine qA rfl ?_|apply qB|refine qC rfl ?_|apply qD|apply qE|apply qF|apply qG|apply qH);try simp (disch:=(first|omega|(simp only [qI,qJ,qK]<;>omega)|exact qL _)) only [go_sem,↓reduceIte,n0,reduceCtorEq,n1,n2,n3,n4,n5,i0,i1,i2,i3,i4,i5,i6,i7])
    refine (counted_fn flex true 0 2 (by omega) (by omega) _).mono ?_
    rintro v2 w2 ⟨ho,he⟩
    have hcl := countedS_len flex true 0 2 (by omega) (by omega)
    refine wp_append ap_22_22 (m := 0) (news := []) (n := (countedS flex true 0 2).length) (cs := (countedS flex true 0 2).map byteV) (v := v2) ?_ rfl (ho.mono (B' := w.heap.size) (by simp only [World.size_alloc];omega)) (flat_bytes _) ⟨rfl,rfl,.inl ⟨none,0,0,rfl,rfl,.inl rfl⟩⟩ ?_ ?_ ?_
    · simp (disch:=(first|omega|(simp only [qI,qJ,qK]<;>omega)|exact qL _)) only [go_sem,↓reduceIte,n0,reduceCtorEq,n1,n2,n3,n4,n5,i0,i1,i2,i3,i4,i5,i6,i7]
    · have := he.size;simp only [World.size_alloc] at this;omega
    · omega
    intro v' w4 ho4 hu hfr
    simp (disch:=(first|omega|(simp only [qI,qJ,qK]<;>omega)|exact qL _)) only [go_sem,↓reduceIte,n0,reduceCtorEq,n1,n2,n3,n4,n5,i0,i1,i2,i3,i4,i5,i6,i7]
    repeat ((first | refine qA rfl ?_|apply qB|refine qC rfl ?_|apply qD|apply qE|apply qF|apply qG|apply qH);try simp (disch:=(first|omega|(simp only [qI,qJ,qK]<;>omega)|exact qL _)) only [go_sem,↓reduceIte,n0,reduceCtorEq,n1,n2,n3,n4,n5,i0,i1,i2,i3,i4,i5,i6,i7])
    refine ⟨?_,?_⟩
    · simp only [valueS]
      exact OwnBy.app (s := countedS flex true 0 2) (t := []) ho4 rfl
    · exact Ext.own (hE.trans he) (ho.mono (B' := w.heap.size) (by simp only [World.size_alloc];omega)) hu
  | false =>
    repeat ((first | refine qA rfl ?_|apply qB|refine qC rfl ?_|apply qD|apply qE|apply qF|apply qG|apply qH);try simp (disch:=(first|omega|(simp only [qI,qJ,qK]<;>omega)|exact qL _)) only [go_sem,↓reduceIte,n0,reduceCtorEq,n1,n2,n3,n4,n5,i0,i1,i2,i3,i4,i5,i6,i7])
    refine (counted_fn flex false (wholeS t.s).length 2 (by omega) (by omega) _).mono ?_
    rintro v2 w2 ⟨ho,he⟩
    have hcl := countedS_len flex false (wholeS t.s).length 2 (by omega) (by omega)
    have hsz := he.size
    simp only [World.size_alloc] at hsz
    refine wp_append ap_22_22 (m := (wholeS t.s).length) (news := (wholeS t.s).map byteV) (n := (countedS flex false (wholeS t.s).length 2).length) (cs := (countedS flex false (wholeS t.s).length 2).map byteV) (v := v2) ?_ rfl (ho.mono (B' := w.heap.size) (by simp only [World.size_alloc];omega)) (flat_bytes _) ?_ ?_ ?_ ?_
    · simp (disch:=(first|omega|(simp only [qI,qJ,qK]<;>omega)|exact qL _)) only [go_sem,↓reduceIte,n0,reduceCtorEq,n1,n2,n3,n4,n5,i0,i1,i2,i3,i4,i5,i6,i7]
    · have := (hw1.keep (he.keeps _)).src
      simp (disch:=(first|omega|(simp only [qI,qJ,qK]<;>omega)|exact qL _)) only [go_sem,↓reduceIte,n0,reduceCtorEq,n1,n2,n3,n4,n5,i0,i1,i2,i3,i4,i5,i6,i7]
      exact this
    · omega
    · omega
    intro v' w4 ho4 hu hfr
    simp (disch:=(first|omega|(simp only [qI,qJ,qK]<;>omega)|exact qL _)) only [go_sem,↓reduceIte,n0,reduceCtorEq,n1,n2,n3,n4,n5,i0,i1,i2,i3,i4,i5,i6,i7]
    repeat ((first | refine qA rfl ?_|apply qB|refine qC rfl ?_|apply qD|apply qE|apply qF|apply qG|apply qH);try simp (disch:=(first|omega|(simp only [qI,qJ,qK]<;>omega)|exact qL _)) only [go_sem,↓reduceIte,n0,reduceCtorEq,n1,n2,n3,n4,n5,i0,i1,i2,i3,i4,i5,i6,i7])
    refine ⟨?_,?_⟩
    · simp only [valueS]
      exact OwnBy.app (s := countedS flex false (wholeS t.s).length 2) (t := wholeS t.s) ho4 rfl
    · exact Ext.own (hE.trans he) (ho.mono (B' := w.heap.size) (by simp only [World.size_alloc];omega)) hu

theorem value_k9 {ok : Blocks} (pt : List Fld → Int → Bool → Tree → List UInt8) (kind : Int) (sub : List Fld) (null : Bool) (ver : Int) (flex : Bool) (t : Tree) (vs : Value) (ct : List Value) (w : World) (hs : FldsV ok w vs sub) (ht : TreeC ok w t ct) (hsm : Small 4611686018427387903 t)
    (hlen : (valueS pt kind sub null ver flex t).length ≤ 2 ^ 40) (h9 : kind = 9) :
    Fn Tryz.prog 50 #[.int .i64 kind,vs,.bool null,.int .i64 ver,.bool flex,.agg ct.toArray] w fun r w' => OwnBy 5 w.heap.size w' r (valueS pt kind sub null ver flex t) ∧ Ext w w' := by
  obtain ⟨vS,vL,vU,rfl,hn,hS,hL,hU⟩ := ht.inv
  have hl1 := hsm.s
  have hl2 := hsm.l
  have f1 := hS.flat
  have f2 := SlR.flat hL
  have f3 := SlR.flat hU
  obtain ⟨bS,cS,rfl,hcS⟩ := hS.shape
  have hE : Ext w (w.alloc (.cells #[.int .i64 t.n,.slice bS t.s.length cS,.bool t.null,vL,vU] 26)) := Upd.alloc (Upd.refl _ _) _
  refine fn_of_W Tryz.func50 rfl Tryz.results50 Tryz.ntmps50 rfl ?_
  subst h9
  have hwl : (wholeS t.s).length ≤ 32767 := by simp only [wholeS,List.length_take];omega
  repeat ((first | refine qA rfl ?_|apply qB|refine qC rfl ?_|apply qD|apply qE|apply qF|apply qG|apply qH);try simp (disch:=(first|omega|(simp only [qI,qJ,qK]<;>omega)|exact qL _)) only [go_sem,↓reduceIte,n0,reduceCtorEq,n1,n2,n3,n4,n5,i0,i1,i2,i3,i4,i5,i6,i7,f1,f2,f3])
  refine (whole_fn t.s _ _ (hS.keep (hE.keeps _))).mono ?_
  rintro v1 w1 ⟨hw1,rfl⟩
  obtain ⟨b1,c1,rfl,hc1⟩ := hw1.shape
  cases null with
  | true =>
    repeat ((first | refine qA rfl ?_|apply qB|refine qC rfl ?_|apply qD|apply qE|apply qF|apply qG|apply qH);try simp (disch:=(first|omega|(simp only [qI,qJ,qK]<;>omega)|exact qL _)) only [go_sem,↓reduceIte,n0,reduceCtorEq,n1,n2,n3,n4,n5,i0,i1,i2,i3,i4,i5,i6,i7])
    refine (counted_fn flex true 0 4 (by omega) (by omega) _).mono ?_
    rintro v2 w2 ⟨ho,he⟩
    have hcl := countedS_len flex true 0 4 (by omega) (by omega)
    refine wp_append ap_22_22 (m := 0) (news := []) (n := (countedS flex true 0 4).length) (cs := (countedS flex true 0 4).map byteV) (v := v2) ?_ rfl (ho.mono (B' := w.heap.size) (by simp only [World.size_alloc];omega)) (flat_bytes _) ⟨rfl,rfl,.inl ⟨none,0,0,rfl,rfl,.inl rfl⟩⟩ ?_ ?_ ?_
    · simp (disch:=(first|omega|(simp only [qI,qJ,qK]<;>omega)|exact qL _)) only [go_sem,↓reduceIte,n0,reduceCtorEq,n1,n2,n3,n4,n5,i0,i1,i2,i3,i4,i5,i6,i7]
    · have := he.size;simp only [World.size_alloc] at this;omega
    · omega
    intro v' w4 ho4 hu hfr
    simp (disch:=(first|omega|(simp only [qI,qJ,qK]<;>omega)|exact qL _)) only [go_sem,↓reduceIte,n0,reduceCtorEq,n1,n2,n3,n4,n5,i0,i1,i2,i3,i4,i5,i6,i7]
    repeat ((first | refine qA rfl ?_|apply qB|refine qC rfl ?_|apply qD|apply qE|apply qF|apply qG|apply qH);try simp (disch:=(first|omega|(simp only [qI,qJ,qK]<;>omega)|exact qL _)) only [go_sem,↓reduceIte,n0,reduceCtorEq,n1,n2,n3,n4,n5,i0,i1,i2,i3,i4,i5,i6,i7])
    refine ⟨?_,?_⟩
    · simp only [valueS]
      exact OwnBy.app (s := countedS flex true 0 4) (t := []) ho4 rfl
    · exact Ext.own (hE.trans he) (ho.mono (B' := w.heap.size) (by simp only [World.size_alloc];omega)) hu
  | false =>
    repeat ((first | refine qA rfl ?_|apply qB|refine qC rfl ?_|apply qD|apply qE|apply qF|apply qG|apply qH);try simp (disch:=(first|omega|(simp only [qI,qJ,qK]<;>omega)|exact qL _)) only [go_sem,↓reduceIte,n0,reduceCtorEq,n1,n2,n3,n4,n5,i0,i1,i2,i3,i4,i5,i6,i7])
    refine (counted_fn flex false (wholeS t.s).length 4 (by omega) (by omega) _).mono ?_
    rintro v2 w2 ⟨ho,he⟩
    have hcl := countedS_len flex false (wholeS t.s).length 4 (by omega) (by omega)
    have hsz := he.size
    simp only [World.size_alloc] at hsz
    refine wp_append ap_22_22 (m := (wholeS t.s).length) (news := (wholeS t.s).map byteV) (n := (countedS flex false (wholeS t.s).length 4).length) (cs := (countedS flex false (wholeS t.s).length 4).map byteV) (v := v2) ?_ rfl (ho.mono (B' := w.heap.size) (by simp only [World.size_alloc];omega)) (flat_bytes _) ?_ ?_ ?_ ?_
    · simp (disch:=(first|omega|(simp only [qI,qJ,qK]<;>omega)|exact qL _)) only [go_sem,↓reduceIte,n0,reduceCtorEq,n1,n2,n3,n4,n5,i0,i1,i2,i3,i4,i5,i6,i7]
    · have := (hw1.keep (he.keeps _)).src
      simp (disch:=(first|omega|(simp only [qI,qJ,qK]<;>omega)|exact qL _)) only [go_sem,↓reduceIte,n0,reduceCtorEq,n1,n2,n3,n4,n5,i0,i1,i2,i3,i4,i5,i6,i7]
      exact this
    · omega
    · omega
    intro v' w4 ho4 hu hfr
    simp (disch:=(first|omega|(simp only [qI,qJ,qK]<;>omega)|exact qL _)) only [go_sem,↓reduceIte,n0,reduceCtorEq,n1,n2,n3,n4,n5,i0,i1,i2,i3,i4,i5,i6,i7]
    repeat ((first | refine qA rfl ?_|apply qB|refine qC rfl ?_|apply qD|apply qE|apply qF|apply qG|apply qH);try simp (disch:=(first|omega|(simp only [qI,qJ,qK]<;>omega)|exact qL _)) only [go_sem,↓reduceIte,n0,reduceCtorEq,n1,n2,n3,n4,n5,i0,i1,i2,i3,i4,i5,i6,i7])
    refine ⟨?_,?_⟩
    · simp only [valueS]
      exact OwnBy.app (s := countedS flex false (wholeS t.s).length 4) (t := wholeS t.s) ho4 rfl
    · exact Ext.own (hE.trans he) (ho.mono (B' := w.heap.size) (by simp only [World.size_alloc];omega)) hu

theorem value_k10 {ok : Blocks} (pt : List Fld → Int → Bool → Tree → List UInt8) (kind : Int) (sub : List Fld) (null : Bool) (ver : Int) (flex : Bool) (t : Tree) (vs : Value) (ct : List Value) (w : World) (hs : FldsV ok w vs sub) (ht : TreeC ok w t ct) (hsm : Small 4611686018427387903 t)
    (hlen : (valueS pt kind sub null ver flex t).length ≤ 2 ^ 40) (h10 : kind = 10) (hpart : ∀ w',Ext w w' → Fn Tryz.prog 16 #[vs,.int .i64 ver,.bool flex,.agg ct.toArray] w' fun r w'' => OwnBy 5 w'.heap.size w'' r (pt sub ver flex t) ∧ Ext w' w'') :
    Fn Tryz.prog 50 #[.int .i64 kind,vs,.bool null,.int .i64 ver,.bool flex,.agg ct.toArray] w fun r w' => OwnBy 5 w.heap.size w' r (valueS pt kind sub null ver flex t) ∧ Ext w w' := by
  obtain ⟨vS,vL,vU,rfl,hn,hS,hL,hU⟩ := ht.inv
  have hl1 := hsm.s
  have hl2 := hsm.l
  have f1 := hS.flat
  have f2 := SlR.flat hL
  have f3 := SlR.flat hU
  obtain ⟨bS,cS,rfl,hcS⟩ := hS.shape
  have hE : Ext w (w.alloc (.cells #[.int .i64 t.n,.slice bS t.s.length cS,.bool t.null,vL,vU] 26)) := Upd.alloc (Upd.refl _ _) _
  refine fn_of_W Tryz.func50 rfl Tryz.results50 Tryz.ntmps50 rfl ?_
  subst h10
  repeat ((first | refine qA rfl ?_|apply qB|refine qC rfl ?_|apply qD|apply qE|apply qF|apply qG|apply qH);try simp (disch:=(first|omega|(simp only [qI,qJ,qK]<;>omega)|exact qL _)) only [go_sem,↓reduceIte,n0,reduceCtorEq,n1,n2,n3,n4,n5,i0,i1,i2,i3,i4,i5,i6,i7,f1,f2,f3,cellsAt_five])
  refine (hpart _ hE).mono ?_
  rintro v5 w5 ⟨ho5,he5⟩
  repeat ((first | refine qA rfl ?_|apply qB|refine qC rfl ?_|apply qD|apply qE|apply qF|apply qG|apply qH);try simp (disch:=(first|omega|(simp only [qI,qJ,qK]<;>omega)|exact qL _)) only [go_sem,↓reduceIte,n0,reduceCtorEq,n1,n2,n3,n4,n5,i0,i1,i2,i3,i4,i5,i6,i7])
  refine ⟨?_,hE.trans he5⟩
  simp only [valueS]
  exact ho5.mono (by simp only [World.size_alloc];omega)

theorem value_k7 {ok : Blocks} (pt : List Fld → Int → Bool → Tree → List UInt8) (kind : Int) (sub : List Fld) (null : Bool) (ver : Int) (flex : Bool) (t : Tree) (vs : Value) (ct : List Value) (w : World) (hs : FldsV ok w vs sub) (ht : TreeC ok w t ct) (hsm : Small 4611686018427387903 t)
    (hlen : (valueS pt kind sub null ver flex t).length ≤ 2 ^ 40) (h7 : kind = 7) :
    Fn Tryz.prog 50 #[.int .i64 kind,vs,.bool null,.int .i64 ver,.bool flex,.agg ct.toArray] w fun r w' => OwnBy 5 w.heap.size w' r (valueS pt kind sub null ver flex t) ∧ Ext w w' := by
  obtain ⟨vS,vL,vU,rfl,hn,hS,hL,hU⟩ := ht.inv
  have hl1 := hsm.s
  have hl2 := hsm.l
  have f1 := hS.flat
  have f2 := SlR.flat hL
  have f3 := SlR.flat hU
  obtain ⟨bS,cS,rfl,hcS⟩ := hS.shape
  have hE : Ext w (w.alloc (.cells #[.int .i64 t.n,.slice bS t.s.length cS,.bool t.null,vL,vU] 26)) := Upd.alloc (Upd.refl _ _) _
  refine fn_of_W Tryz.func50 rfl Tryz.results50 Tryz.ntmps50 rfl ?_
  subst h7
  repeat ((first | refine qA rfl ?_|apply qB|refine qC rfl ?_|apply qD|apply qE|apply qF|apply qG|apply qH);try simp (disch:=(first|omega|(simp only [qI,qJ,qK]<;>omega)|exact qL _)) only [go_sem,↓reduceIte,n0,reduceCtorEq,n1,n2,n3,n4,n5,i0,i1,i2,i3,i4,i5,i6,i7,f1,f2,f3])
  refine wp_make (T := 22) (E := 5) (size := 1) (bytes := 1) (z := .int .u8 0) (by kernel_rfl) (by kernel_rfl) (kl := .i64) (kc := .i64) (l := 16) (c := 16) ?_ ?_ (by omega) (by omega) (by omega) ?_
  · rfl
  · rfl
  rw [show (Value.int .u8 0).cells = #[Value.int .u8 0] from rfl,made_one]
  have hw3 : Ext w ((w.alloc (.cells #[.int .i64 t.n,.slice bS t.s.length cS,.bool t.null,vL,vU] 26)).alloc (.cells (List.replicate (16 * 1) (Value.int IntKind.u8 0)).toArray 5)) := hE.alloc _
  have hsz : (w.alloc (.cells #[.int .i64 t.n,.slice bS t.s.length cS,.bool t.null,vL,vU] 26)).heap.size = w.heap.size + 1 := by simp only [World.size_alloc]
  simp (disch:=(first|omega|(simp only [qI,qJ,qK]<;>omega)|exact qL _)) only [go_sem,↓reduceIte,n0,reduceCtorEq,n1,n2,n3,n4,n5,i0,i1,i2,i3,i4,i5,i6,i7]
  repeat ((first | refine qA rfl ?_|apply qB|refine qC rfl ?_|apply qD|apply qE|apply qF|apply qG|apply qH);try simp (disch:=(first|omega|(simp only [qI,qJ,qK]<;>omega)|exact qL _)) only [go_sem,↓reduceIte,n0,reduceCtorEq,n1,n2,n3,n4,n5,i0,i1,i2,i3,i4,i5,i6,i7,f1,f2,f3])
  refine wp_copy (E := 5) (n := 16) (b := w.heap.size + 1) (cap := 16) (m := t.s.length) (c := cS) (base := bS) (s := t.s) (xb := ((List.replicate 16 (Value.int .u8 0)).toArray,5,(0,0))) (by kernel_rfl) (by kernel_rfl) ?_ ?_ (hS.keep (hw3.keeps _)) ?_ ?_ rfl ?_
  · simp (disch:=(first|omega|(simp only [qI,qJ,qK]<;>omega)|exact qL _)) only [go_sem,↓reduceIte,n0,reduceCtorEq,n1,n2,n3,n4,n5,i0,i1,i2,i3,i4,i5,i6,i7]
  · simp (disch:=(first|omega|(simp only [qI,qJ,qK]<;>omega)|exact qL _)) only [go_sem,↓reduceIte,n0,reduceCtorEq,n1,n2,n3,n4,n5,i0,i1,i2,i3,i4,i5,i6,i7]
  · rw [blk_alloc_new (by omega)]
  · simp
  intro v
  simp (disch:=(first|omega|(simp only [qI,qJ,qK]<;>omega)|exact qL _)) only [go_sem,↓reduceIte,n0,reduceCtorEq,n1,n2,n3,n4,n5,i0,i1,i2,i3,i4,i5,i6,i7]
  repeat ((first | refine qA rfl ?_|apply qB|refine qC rfl ?_|apply qD|apply qE|apply qF|apply qG|apply qH);try simp (disch:=(first|omega|(simp only [qI,qJ,qK]<;>omega)|exact qL _)) only [go_sem,↓reduceIte,n0,reduceCtorEq,n1,n2,n3,n4,n5,i0,i1,i2,i3,i4,i5,i6,i7,f1,f2,f3])
  refine ⟨?_,hw3.wr _ _ (.inl (by omega))⟩
  have e : valueS pt 7 sub null ver flex t = t.s.take 16 ++ List.replicate (16 - t.s.length) 0 := by simp [valueS]
  have hl16 : (t.s.take 16 ++ List.replicate (16 - t.s.length) 0).length = 16 := by
    simp only [List.length_append,List.length_take,List.length_replicate];omega
  rw [e]
  have hb := blk_wr_eq (w := (w.alloc (.cells #[.int .i64 t.n,.slice bS t.s.length cS,.bool t.null,vL,vU] 26)).alloc (.cells (List.replicate 16 (Value.int IntKind.u8 0)).toArray 5)) (b := w.heap.size + 1) (o := 0) (vs := (t.s.take 16).map byteV)
  rw [blk_alloc_new (by omega),Option.map_some] at hb
  have ha : wrArr (List.replicate 16 (Value.int IntKind.u8 0)).toArray 0 ((t.s.take 16).map byteV) = ((t.s.take 16 ++ List.replicate (16 - t.s.length) 0).map byteV).toArray := by
    apply Array.ext_getElem?
    intro k
    rw [wrArr_get]
    simp only [List.size_toArray,List.length_replicate,List.getElem?_toArray,List.length_map,List.length_take,List.map_append,List.map_replicate]
    have hb0 : byteV 0 = Value.int IntKind.u8 0 := rfl
    rw [hb0]
    simp only [List.getElem?_append,List.length_map,List.length_take,List.getElem?_replicate]
    by_cases h1 : k < min 16 t.s.length
    · rw [if_pos (by omega),if_pos h1];rfl
    · rw [if_neg (by omega),if_neg h1]
      by_cases h2 : k < 16
      · rw [if_pos h2,if_pos (by omega)]
      · rw [if_neg h2,if_neg (by omega)]
  rw [ha] at hb
  have := Own.blk (B := w.heap.size) (size := 1) (n := 16) hb (by rw [List.length_map,hl16]) (by omega)
  show Own _ _ _ 1 _ (t.s.take 16 ++ List.replicate (16 - t.s.length) 0).length _
  rw [hl16]
  exact this

theorem value_kd {ok : Blocks} (pt : List Fld → Int → Bool → Tree → List UInt8) (kind : Int) (sub : List Fld) (null : Bool) (ver : Int) (flex : Bool) (t : Tree) (vs : Value) (ct : List Value) (w : World) (hs : FldsV ok w vs sub) (ht : TreeC ok w t ct) (hsm : Small 4611686018427387903 t)
    (hlen : (valueS pt kind sub null ver flex t).length ≤ 2 ^ 40) (h0 : kind ≠ 0) (h7 : kind ≠ 7) (h8 : kind ≠ 8) (h9 : kind ≠ 9) (h10 : kind ≠ 10) :
    Fn Tryz.prog 50 #[.int .i64 kind,vs,.bool null,.int .i64 ver,.bool flex,.agg ct.toArray] w fun r w' => OwnBy 5 w.heap.size w' r (valueS pt kind sub null ver flex t) ∧ Ext w w' := by
  obtain ⟨vS,vL,vU,rfl,hn,hS,hL,hU⟩ := ht.inv
  have hl1 := hsm.s
  have hl2 := hsm.l
  have f1 := hS.flat
  have f2 := SlR.flat hL
  have f3 := SlR.flat hU
  obtain ⟨bS,cS,rfl,hcS⟩ := hS.shape
  have hE : Ext w (w.alloc (.cells #[.int .i64 t.n,.slice bS t.s.length cS,.bool t.null,vL,vU] 26)) := Upd.alloc (Upd.refl _ _) _
  refine fn_of_W Tryz.func50 rfl Tryz.results50 Tryz.ntmps50 rfl ?_
  repeat ((first | refine qA rfl ?_|apply qB|refine qC rfl ?_|apply qD|apply qE|apply qF|apply qG|apply qH);try simp (disch:=(first|omega|(simp only [qI,qJ,qK]<;>omega)|exact qL _)) only [go_sem,↓reduceIte,n0,reduceCtorEq,n1,n2,n3,n4,n5,i0,i1,i2,i3,i4,i5,i6,i7,f1,f2,f3])
  refine W.drawR (.take 0 (.take 1 (.take 2 (.only 3 (.only 4 (.only 5 .done)))))) NoB mixed (by kernel_rfl) ?_
  simp (disch:=(first|omega|(simp only [qI,qJ,qK]<;>omega)|exact qL _)) only [go_sem,↓reduceIte,n0,reduceCtorEq,n1,n2,n3,n4,n5,i0,i1,i2,i3,i4,i5,i6,i7,f1,f2,f3]
  have hw4 := hE.drew
  refine (Width_fn kind _).mono ?_
  rintro _ _ ⟨rfl,rfl⟩
  refine ⟨Upd.refl _ _,?_⟩
  refine (Fixed_fn t.n (widthS kind) (widthS_le _) _).mono ?_
  rintro v5 w5 ⟨ho5,he5⟩
  refine ⟨he5,he5,?_⟩
  repeat ((first | refine qA rfl ?_|apply qB|refine qC rfl ?_|apply qD|apply qE|apply qF|apply qG|apply qH);try simp (disch:=(first|omega|(simp only [qI,qJ,qK]<;>omega)|exact qL _)) only [go_sem,↓reduceIte,n0,reduceCtorEq,n1,n2,n3,n4,n5,i0,i1,i2,i3,i4,i5,i6,i7])
  refine ⟨?_,hw4.trans he5⟩
  have e : valueS pt kind sub null ver flex t = fixedS t.n (widthS kind) := by simp [valueS,h0,h7,h8,h9,h10]
  rw [e]
  exact ho5.mono (by simp only [size_drew,World.size_alloc];omega)

theorem value_fn {ok : Blocks} (pt : List Fld → Int → Bool → Tree → List UInt8) (kind : Int) (sub : List Fld) (null : Bool) (ver : Int) (flex : Bool) (t : Tree) (vs : Value) (ct : List Value) (w : World) (hs : FldsV ok w vs sub) (ht : TreeC ok w t ct) (hsm : Small 4611686018427387903 t)
    (hlen : (valueS pt kind sub null ver flex t).length ≤ 2 ^ 40)
    (hpart : kind = 10 → ∀ w',Ext w w' → Fn Tryz.prog 16 #[vs,.int .i64 ver,.bool flex,.agg ct.toArray] w' fun r w'' => OwnBy 5 w'.heap.size w'' r (pt sub ver flex t) ∧ Ext w' w'') :
    Fn Tryz.prog 50 #[.int .i64 kind,vs,.bool null,.int .i64 ver,.bool flex,.agg ct.toArray] w fun r w' => OwnBy 5 w.heap.size w' r (valueS pt kind sub null ver flex t) ∧ Ext w w' := by
  by_cases h0 : kind = 0
  · exact value_k0 pt kind sub null ver flex t vs ct w hs ht hsm hlen h0
  by_cases h7 : kind = 7
  · exact value_k7 pt kind sub null ver flex t vs ct w hs ht hsm hlen h7
  by_cases h8 : kind = 8
  · exact value_k8 pt kind sub null ver flex t vs ct w hs ht hsm hlen h8
  by_cases h9 : kind = 9
  · exact value_k9 pt kind sub null ver flex t vs ct w hs ht hsm hlen h9
  by_cases h10 : kind = 10
  · exact value_k10 pt kind sub null ver flex t vs ct w hs ht hsm hlen h10 (hpart h10)
  exact value_kd pt kind sub null ver flex t vs ct w hs ht hsm hlen h0 h7 h8 h9 h10
end Ms

