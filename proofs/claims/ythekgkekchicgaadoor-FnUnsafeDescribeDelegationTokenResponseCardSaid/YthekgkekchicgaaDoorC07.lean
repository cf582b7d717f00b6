/- A part of the proof: see the last text. -/
import Derived.Shelf.GgSortFunc.Whole
import Derived.Shelf.GgSortFunc.Tiny
import Derived.Test.YthekgkekchicgaaDoorProg
import Derived.KernelRfl
import Derived.Test.YthekgkekchicgaaDoorC00
import Derived.Test.YthekgkekchicgaaDoorC02
import Derived.Test.YthekgkekchicgaaDoorC03
import Derived.Test.YthekgkekchicgaaDoorC04
import Derived.Test.YthekgkekchicgaaDoorC06
set_option linter.unusedSimpArgs false
set_option linter.unusedVariables false
namespace Ms
open Go.World renaming size_alloc → qI
open Ms renaming size_wr → qJ,size_drew → qK,not_noB → qL
open W renaming seqR → qA,seq → qB,regR → qC,condK → qD,block → qE,skip → qF,ret → qG,exit → qH
open Nat renaming reduceEqDiff → n0,reduceAdd → n1,reduceMul → n2,reduceSub → n3,reduceLT → n4,reduceLeDiff → n5
open Int renaming reduceEq → i0,reduceLT → i1,reduceLE → i2,reduceNeg → i3,reduceAdd → i4,reduceSub → i5,reduceMul → i6,reduceToNat → i7
set_option maxRecDepth 4000
open Go Go.Proofs Go.Shelf
attribute [local congr] W_congr WPsq_congr WPp_congr optK_congr addrK_congr intK_congr boolK_congr sliceK_congr tupleK_congr funcK_congr Fn_congr rawK_congr takeK_congr stepK_congr convK_congr aggK_congr

theorem boolTree_fn (b : Bool) (w : World) : Fn Tryd.prog 163 #[.bool b] w fun r w' => r = .agg #[.int .i64 (if b = true then 1 else 0),.slice none 0 0,.bool false,.slice none 0 0,.slice none 0 0] ∧ Ext w w' := by
  refine fn_of_W Tryd.func163 rfl Tryd.results163 Tryd.ntmps163 rfl ?_
  cases b with
  | true =>
    repeat ((first | refine qA rfl ?_|refine qB ?_|refine qC rfl ?_|refine qD ?_|refine qE ?_|refine qF ?_|refine qG ?_|refine qH ?_);try simp (maxSteps:=1000000)(disch:=(first|omega|(simp only [qI,qJ,qK]<;>omega)|exact qL _)) only [go_sem,↓reduceIte,n0,reduceCtorEq,n1,n2,n3,n4,n5,i0,i1,i2,i3,i4,i5,i6,i7,cellsAt_five])
    first | exact (Upd.alloc (Upd.refl _ _) _).wr _ _ (.inl (Nat.le_refl _)) | exact ⟨rfl,(Upd.alloc (Upd.refl _ _) _).wr _ _ (.inl (Nat.le_refl _))⟩
  | false =>
    repeat ((first | refine qA rfl ?_|refine qB ?_|refine qC rfl ?_|refine qD ?_|refine qE ?_|refine qF ?_|refine qG ?_|refine qH ?_);try simp (maxSteps:=1000000)(disch:=(first|omega|(simp only [qI,qJ,qK]<;>omega)|exact qL _)) only [go_sem,↓reduceIte,n0,reduceCtorEq,n1,n2,n3,n4,n5,i0,i1,i2,i3,i4,i5,i6,i7,cellsAt_five])
    first | exact (Upd.alloc (Upd.refl _ _) _).wr _ _ (.inl (Nat.le_refl _)) | exact ⟨rfl,(Upd.alloc (Upd.refl _ _) _).wr _ _ (.inl (Nat.le_refl _))⟩

theorem octetsTree_fn {ok : Blocks} (v : Value) (null : Bool) (s : List UInt8) (w : World) (h : OptBytes ok w v null s) (hl : s.length ≤ 2 ^ 40) :
    Fn Tryd.prog 252 #[v] w fun r w' => (∃ vS,r = .agg #[.int .i64 0,vS,.bool null,.slice none 0 0,.slice none 0 0] ∧ BytesV (fun b => w.heap.size ≤ b) w' vS (if null = true then [] else s)) ∧ Ext w w' := by
  have hE1 : Ext w (w.alloc (.cells #[.int .i64 0,.slice none 0 0,.bool false,.slice none 0 0,.slice none 0 0] 26)) := Upd.alloc (Upd.refl _ _) _
  have hb1 : blk (w.alloc (.cells #[.int .i64 0,.slice none 0 0,.bool false,.slice none 0 0,.slice none 0 0] 26)) w.heap.size = some (#[.int .i64 0,.slice none 0 0,.bool false,.slice none 0 0,.slice none 0 0],26,(0,0)) := blk_alloc_new rfl
  have hz1 : (w.alloc (.cells #[.int .i64 0,.slice none 0 0,.bool false,.slice none 0 0,.slice none 0 0] 26)).heap.size = w.heap.size + 1 := World.size_alloc _ _
  refine fn_of_W Tryd.func252 rfl Tryd.results252 Tryd.ntmps252 rfl ?_
  rcases optBytes_shapeN h with ⟨rfl,rfl⟩ | ⟨rfl,a,c,rfl,hb⟩
  · rw [if_pos rfl]
    repeat ((first | refine qA rfl ?_|refine qB ?_|refine qC rfl ?_|refine qD ?_|refine qE ?_|refine qF ?_|refine qG ?_|refine qH ?_);try simp (maxSteps:=1000000)(disch:=(first|omega|(simp only [qI,qJ,qK]<;>omega)|exact qL _)) only [go_sem,↓reduceIte,n0,reduceCtorEq,n1,n2,n3,n4,n5,i0,i1,i2,i3,i4,i5,i6,i7])
    generalize (w.alloc (.cells #[.int .i64 0,.slice none 0 0,.bool false,.slice none 0 0,.slice none 0 0] 26)) = w1 at *
    refine wp_copyN ap_22_22 (ok := AnyB) (s := []) (v := .slice none 0 0) (by first | rfl | simp (maxSteps:=1000000)(disch:=(first|omega|(simp only [qI,qJ,qK]<;>omega)|exact qL _)) only [go_sem,↓reduceIte,n0,reduceCtorEq,n1,n2,n3,n4,n5,i0,i1,i2,i3,i4,i5,i6,i7]) (by first | rfl | simp (maxSteps:=1000000)(disch:=(first|omega|(simp only [qI,qJ,qK]<;>omega)|exact qL _)) only [go_sem,↓reduceIte,n0,reduceCtorEq,n1,n2,n3,n4,n5,i0,i1,i2,i3,i4,i5,i6,i7]) (BytesV.nil _ _) (by first | omega | simp) ?_
    intro v' w' ho hE hf
    obtain ⟨av,kv,rfl,_⟩ := ho.shape
    have hB := Own.bytes (ok := fun b => w.heap.size + 1 ≤ b) ho fun b hb => by have := hf b hb;omega
    have hb2 := hE.blk_some hb1 id
    have hz2 := hE.size
    have hfl := hB.flat
    simp (maxSteps:=1000000)(disch:=(first|omega|(simp only [qI,qJ,qK]<;>omega)|exact qL _)) only [go_sem,↓reduceIte,n0,reduceCtorEq,n1,n2,n3,n4,n5,i0,i1,i2,i3,i4,i5,i6,i7,hb2,hfl]
    repeat ((first | refine qA rfl ?_|refine qB ?_|refine qC rfl ?_|refine qD ?_|refine qE ?_|refine qF ?_|refine qG ?_|refine qH ?_);try simp (maxSteps:=1000000)(disch:=(first|omega|(simp only [qI,qJ,qK]<;>omega)|exact qL _)) only [go_sem,↓reduceIte,n0,reduceCtorEq,n1,n2,n3,n4,n5,i0,i1,i2,i3,i4,i5,i6,i7,hb2,hfl,cellsAt_five])
    refine ⟨⟨_,rfl,?_⟩,(hE1.trans hE).wr _ _ (.inl (Nat.le_refl _))⟩
    exact (hB.keep (((Upd.refl (fun b => b = w.heap.size) _).wr _ _ (.inr rfl)).keeps fun b _ hk e => by omega)).weaken fun b _ hk => by omega
  · rw [if_neg (by decide)]
    repeat ((first | refine qA rfl ?_|refine qB ?_|refine qC rfl ?_|refine qD ?_|refine qE ?_|refine qF ?_|refine qG ?_|refine qH ?_);try simp (maxSteps:=1000000)(disch:=(first|omega|(simp only [qI,qJ,qK]<;>omega)|exact qL _)) only [go_sem,↓reduceIte,n0,reduceCtorEq,n1,n2,n3,n4,n5,i0,i1,i2,i3,i4,i5,i6,i7])
    generalize (w.alloc (.cells #[.int .i64 0,.slice none 0 0,.bool false,.slice none 0 0,.slice none 0 0] 26)) = w1 at *
    refine wp_copyN ap_22_22 (ok := ok) (s := s) (v := .slice (some a) s.length c) (by first | rfl | simp (maxSteps:=1000000)(disch:=(first|omega|(simp only [qI,qJ,qK]<;>omega)|exact qL _)) only [go_sem,↓reduceIte,n0,reduceCtorEq,n1,n2,n3,n4,n5,i0,i1,i2,i3,i4,i5,i6,i7]) (by first | rfl | simp (maxSteps:=1000000)(disch:=(first|omega|(simp only [qI,qJ,qK]<;>omega)|exact qL _)) only [go_sem,↓reduceIte,n0,reduceCtorEq,n1,n2,n3,n4,n5,i0,i1,i2,i3,i4,i5,i6,i7]) (hb.keep (hE1.keeps _)) (by first | omega | simp) ?_
    intro v' w' ho hE hf
    obtain ⟨av,kv,rfl,_⟩ := ho.shape
    have hB := Own.bytes (ok := fun b => w.heap.size + 1 ≤ b) ho fun b hb => by have := hf b hb;omega
    have hb2 := hE.blk_some hb1 id
    have hz2 := hE.size
    have hfl := hB.flat
    simp (maxSteps:=1000000)(disch:=(first|omega|(simp only [qI,qJ,qK]<;>omega)|exact qL _)) only [go_sem,↓reduceIte,n0,reduceCtorEq,n1,n2,n3,n4,n5,i0,i1,i2,i3,i4,i5,i6,i7,hb2,hfl]
    repeat ((first | refine qA rfl ?_|refine qB ?_|refine qC rfl ?_|refine qD ?_|refine qE ?_|refine qF ?_|refine qG ?_|refine qH ?_);try simp (maxSteps:=1000000)(disch:=(first|omega|(simp only [qI,qJ,qK]<;>omega)|exact qL _)) only [go_sem,↓reduceIte,n0,reduceCtorEq,n1,n2,n3,n4,n5,i0,i1,i2,i3,i4,i5,i6,i7,hb2,hfl,cellsAt_five])
    refine ⟨⟨_,rfl,?_⟩,(hE1.trans hE).wr _ _ (.inl (Nat.le_refl _))⟩
    exact (hB.keep (((Upd.refl (fun b => b = w.heap.size) _).wr _ _ (.inr rfl)).keeps fun b _ hk e => by omega)).weaken fun b _ hk => by omega

theorem textTree_fn {ok : Blocks} (v : Value) (null : Bool) (s : List UInt8) (w : World) (h : PtrText ok w v null s) :
    Fn Tryd.prog 176 #[v] w fun r w' => (∃ vS,r = .agg #[.int .i64 0,vS,.bool null,.slice none 0 0,.slice none 0 0] ∧ BytesV (fun b => w.heap.size ≤ b) w' vS (if null = true then [] else s)) ∧ Ext w w' := by
  have hE1 : Ext w (w.alloc (.cells #[.int .i64 0,.slice none 0 0,.bool false,.slice none 0 0,.slice none 0 0] 26)) := Upd.alloc (Upd.refl _ _) _
  have hb1 : blk (w.alloc (.cells #[.int .i64 0,.slice none 0 0,.bool false,.slice none 0 0,.slice none 0 0] 26)) w.heap.size = some (#[.int .i64 0,.slice none 0 0,.bool false,.slice none 0 0,.slice none 0 0],26,(0,0)) := blk_alloc_new rfl
  have hz1 : (w.alloc (.cells #[.int .i64 0,.slice none 0 0,.bool false,.slice none 0 0,.slice none 0 0] 26)).heap.size = w.heap.size + 1 := World.size_alloc _ _
  refine fn_of_W Tryd.func176 rfl Tryd.results176 Tryd.ntmps176 rfl ?_
  unfold PtrText at h
  cases null with
  | true =>
    rw [if_pos rfl] at h ⊢;subst h
    repeat ((first | refine qA rfl ?_|refine qB ?_|refine qC rfl ?_|refine qD ?_|refine qE ?_|refine qF ?_|refine qG ?_|refine qH ?_);try simp (maxSteps:=1000000)(disch:=(first|omega|(simp only [qI,qJ,qK]<;>omega)|exact qL _)) only [go_sem,↓reduceIte,n0,reduceCtorEq,n1,n2,n3,n4,n5,i0,i1,i2,i3,i4,i5,i6,i7,cellsAt_five])
    refine ⟨⟨_,rfl,BytesV.nil _ _⟩,hE1.wr _ _ (.inl (Nat.le_refl _))⟩
  | false =>
    rw [if_neg (by decide)] at h ⊢
    obtain ⟨b,o,x,rfl,_,hb,hx⟩ := h
    have hbl := blk_lt hb
    have hb' := hE1.blk_some hb id
    repeat ((first | refine qA rfl ?_|refine qB ?_|refine qC rfl ?_|refine qD ?_|refine qE ?_|refine qF ?_|refine qG ?_|refine qH ?_);try simp (maxSteps:=1000000)(disch:=(first|omega|(simp only [qI,qJ,qK]<;>omega)|exact qL _)) only [go_sem,↓reduceIte,n0,reduceCtorEq,n1,n2,n3,n4,n5,i0,i1,i2,i3,i4,i5,i6,i7,hb,hx])
    generalize (w.alloc (.cells #[.int .i64 0,.slice none 0 0,.bool false,.slice none 0 0,.slice none 0 0] 26)) = w1 at *
    refine wp_octets (S := 9) (T := 22) (E := 5) (s := s) (by kernel_rfl) (by kernel_rfl) (by kernel_rfl) (by first | rfl | simp (maxSteps:=1000000)(disch:=(first|omega|(simp only [qI,qJ,qK]<;>omega)|exact qL _)) only [go_sem,↓reduceIte,n0,reduceCtorEq,n1,n2,n3,n4,n5,i0,i1,i2,i3,i4,i5,i6,i7]) ?_
    intro a k w' hB0 hE
    have hB := hB0.weaken (ok' := fun b => w.heap.size + 1 ≤ b) fun b _ hk => by omega
    have hb2 := hE.blk_some hb1 id
    have hz2 := hE.size
    have hfl := hB.flat
    simp (maxSteps:=1000000)(disch:=(first|omega|(simp only [qI,qJ,qK]<;>omega)|exact qL _)) only [go_sem,↓reduceIte,n0,reduceCtorEq,n1,n2,n3,n4,n5,i0,i1,i2,i3,i4,i5,i6,i7,hb2,hfl]
    repeat ((first | refine qA rfl ?_|refine qB ?_|refine qC rfl ?_|refine qD ?_|refine qE ?_|refine qF ?_|refine qG ?_|refine qH ?_);try simp (maxSteps:=1000000)(disch:=(first|omega|(simp only [qI,qJ,qK]<;>omega)|exact qL _)) only [go_sem,↓reduceIte,n0,reduceCtorEq,n1,n2,n3,n4,n5,i0,i1,i2,i3,i4,i5,i6,i7,hb2,hfl,cellsAt_five])
    refine ⟨⟨_,rfl,?_⟩,(hE1.trans hE).wr _ _ (.inl (Nat.le_refl _))⟩
    exact (hB.keep (((Upd.refl (fun b => b = w.heap.size) _).wr _ _ (.inr rfl)).keeps fun b _ hk e => by omega)).weaken fun b _ hk => by omega

theorem sorted_fn {ok : Blocks} (v : Value) (u : List TagD) (w : World) (h : TagsV ok w v u) (hs : (u.map (·.1)).Pairwise (· < ·)) (hl : u.length ≤ 32767) : Fn Tryd.prog 142 #[v] w fun _ w' => Ext w w' := by
  obtain ⟨a,c,rfl,_⟩ := SlR.shape h
  refine fn_of_W Tryd.func142 rfl Tryd.results142 Tryd.ntmps142 rfl ?_
  repeat ((first | refine qA rfl ?_|refine qB ?_|refine qC rfl ?_|refine qD ?_|refine qE ?_|refine qF ?_|refine qG ?_|refine qH ?_);try simp (maxSteps:=1000000)(disch:=(first|omega|(simp only [qI,qJ,qK]<;>omega)|exact qL _)) only [go_sem,↓reduceIte,n0,reduceCtorEq,n1,n2,n3,n4,n5,i0,i1,i2,i3,i4,i5,i6,i7])
  refine W.exitJ 0 (EndQ [] (fun w' => Ext w w'))
    (W.loop (LoopL [(5,.int .i64 u.length),(0,.slice a u.length c)] 6 (fun j w' => j ≤ u.length ∧ Ext w w')) (fun ρ _ => u.length - (RowKit.intOf (ρ 6)).toNat) ?_ ?_) ?_
  · exact ⟨(by simp (maxSteps:=1000000)(disch:=(first|omega|(simp only [qI,qJ,qK]<;>omega)|exact qL _)) only [go_sem,↓reduceIte,n0,reduceCtorEq,n1,n2,n3,n4,n5,i0,i1,i2,i3,i4,i5,i6,i7,Holds_nil,Holds_cons]),0,(by simp (maxSteps:=1000000)(disch:=(first|omega|(simp only [qI,qJ,qK]<;>omega)|exact qL _)) only [go_sem,↓reduceIte,n0,reduceCtorEq,n1,n2,n3,n4,n5,i0,i1,i2,i3,i4,i5,i6,i7];all_goals rfl),Nat.zero_le _,Upd.refl _ _⟩
  · rintro ρ w1 ⟨⟨h5,h0,-⟩,j,h6,hj,hE⟩
    by_cases hlt : j < u.length
    · repeat ((first | refine qA rfl ?_|refine qB ?_|refine qC rfl ?_|refine qD ?_|refine qE ?_|refine qF ?_|refine qG ?_|refine qH ?_);try simp (maxSteps:=1000000)(disch:=(first|omega|(simp only [qI,qJ,qK]<;>omega)|exact qL _)) only [go_sem,↓reduceIte,n0,reduceCtorEq,n1,n2,n3,n4,n5,i0,i1,i2,i3,i4,i5,i6,i7,h6,h5,h0])
      refine W.exitJ 2 (EndQ [(6,.int .i64 j),(5,.int .i64 u.length),(0,.slice a u.length c)] (fun w' => Ext w w')) (W.loop (EndQ [(3,.int .i64 j),(6,.int .i64 j),(5,.int .i64 u.length),(0,.slice a u.length c)] (fun w' => Ext w w')) (fun _ _ => 0) ?_ ?_) ?_
      · exact ⟨(by simp (maxSteps:=1000000)(disch:=(first|omega|(simp only [qI,qJ,qK]<;>omega)|exact qL _)) only [go_sem,↓reduceIte,n0,reduceCtorEq,n1,n2,n3,n4,n5,i0,i1,i2,i3,i4,i5,i6,i7,Holds_nil,Holds_cons,h6,h5,h0]),hE⟩
      · rintro ρ w2 ⟨⟨h3,h6,h5,h0,-⟩,hE2⟩
        by_cases hz : j = 0
        · subst hz
          have hc : ¬ (0 : Int) < ((0 : Nat) : Int) := by omega
          repeat ((first | refine qA rfl ?_|refine qB ?_|refine qC rfl ?_|refine qD ?_|refine qE ?_|refine qF ?_|refine qG ?_|refine qH ?_);try simp (maxSteps:=1000000)(disch:=(first|omega|(simp only [qI,qJ,qK]<;>omega)|exact qL _)) only [go_sem,↓reduceIte,n0,reduceCtorEq,n1,n2,n3,n4,n5,i0,i1,i2,i3,i4,i5,i6,i7])
          refine W.drawR (.take 0 (.take 1 (.take 2 (.take 3 (.take 4 (.take 5 (.take 6 (.take 7 (.take 8 (.take 9 (.take 10 (.take 11 (.take 12 (.take 13 (.take 14 (.take 15 .done)))))))))))))))) NoB mixed (by kernel_rfl) ?_
          simp (maxSteps:=1000000)(disch:=(first|omega|(simp only [qI,qJ,qK]<;>omega)|exact qL _)) only [go_sem,↓reduceIte,n0,reduceCtorEq,n1,n2,n3,n4,n5,i0,i1,i2,i3,i4,i5,i6,i7,h3,h0,hc]
          repeat ((first | refine qA rfl ?_|refine qB ?_|refine qC rfl ?_|refine qD ?_|refine qE ?_|refine qF ?_|refine qG ?_|refine qH ?_);try simp (maxSteps:=1000000)(disch:=(first|omega|(simp only [qI,qJ,qK]<;>omega)|exact qL _)) only [go_sem,↓reduceIte,n0,reduceCtorEq,n1,n2,n3,n4,n5,i0,i1,i2,i3,i4,i5,i6,i7,h3,h0,hc])
          exact ⟨(by simp (maxSteps:=1000000)(disch:=(first|omega|(simp only [qI,qJ,qK]<;>omega)|exact qL _)) only [go_sem,↓reduceIte,n0,reduceCtorEq,n1,n2,n3,n4,n5,i0,i1,i2,i3,i4,i5,i6,i7,Holds_nil,Holds_cons,h6,h5,h0]),hE2.drew⟩
        · have hU := h.keep (hE2.keeps _)
          obtain ⟨_,b,o,x,vv,hb,_,hx,_,hxs,_,q0,q1,_,_,h32⟩ := TagsV.get hU hlt
          obtain ⟨_,b',o',x',vv',hb',_,hx',_,hxs',_,q0',q1',_,_,h32'⟩ := TagsV.get hU (i := j - 1) (by omega)
          subst hb
          cases hb'
          rw [hx] at hx';cases hx'
          have hle : u[j - 1].1 < u[j].1 := by
            have := List.pairwise_iff_getElem.1 hs (j - 1) j (by simp;omega) (by simpa using hlt) (by omega)
            simpa using this
          generalize u[j].1 = ka at *
          generalize u[j - 1].1 = kb at *
          have hc : (0 : Int) < (j : Int) := by omega
          have he : (j : Int) - 1 = ((j - 1 : Nat) : Int) := by omega
          have hd : ¬ (ka : Int) < (kb : Int) := by omega
          repeat ((first | refine qA rfl ?_|refine qB ?_|refine qC rfl ?_|refine qD ?_|refine qE ?_|refine qF ?_|refine qG ?_|refine qH ?_);try simp (maxSteps:=1000000)(disch:=(first|omega|(simp only [qI,qJ,qK]<;>omega)|exact qL _)) only [go_sem,↓reduceIte,n0,reduceCtorEq,n1,n2,n3,n4,n5,i0,i1,i2,i3,i4,i5,i6,i7])
          refine W.drawR (.take 0 (.take 1 (.take 2 (.take 3 (.take 4 (.take 5 (.take 6 (.take 7 (.take 8 (.take 9 (.take 10 (.take 11 (.take 12 (.take 13 (.take 14 (.take 15 .done)))))))))))))))) NoB mixed (by kernel_rfl) ?_
          simp (maxSteps:=1000000)(disch:=(first|omega|(simp only [qI,qJ,qK]<;>omega)|exact qL _)) only [go_sem,↓reduceIte,n0,reduceCtorEq,n1,n2,n3,n4,n5,i0,i1,i2,i3,i4,i5,i6,i7,h3,h0,hc,he,hx,q0,q0',hd,Int.toNat_natCast]
          repeat ((first | refine qA rfl ?_|refine qB ?_|refine qC rfl ?_|refine qD ?_|refine qE ?_|refine qF ?_|refine qG ?_|refine qH ?_);try simp (maxSteps:=1000000)(disch:=(first|omega|(simp only [qI,qJ,qK]<;>omega)|exact qL _)) only [go_sem,↓reduceIte,n0,reduceCtorEq,n1,n2,n3,n4,n5,i0,i1,i2,i3,i4,i5,i6,i7,h3,h0,hc,he,hx,q0,q0',hd,Int.toNat_natCast])
          exact ⟨(by simp (maxSteps:=1000000)(disch:=(first|omega|(simp only [qI,qJ,qK]<;>omega)|exact qL _)) only [go_sem,↓reduceIte,n0,reduceCtorEq,n1,n2,n3,n4,n5,i0,i1,i2,i3,i4,i5,i6,i7,Holds_nil,Holds_cons,h6,h5,h0]),hE2.drew⟩
      · rintro ρ w2 ⟨⟨h6,h5,h0,-⟩,hE2⟩
        repeat ((first | refine qA rfl ?_|refine qB ?_|refine qC rfl ?_|refine qD ?_|refine qE ?_|refine qF ?_|refine qG ?_|refine qH ?_);try simp (maxSteps:=1000000)(disch:=(first|omega|(simp only [qI,qJ,qK]<;>omega)|exact qL _)) only [go_sem,↓reduceIte,n0,reduceCtorEq,n1,n2,n3,n4,n5,i0,i1,i2,i3,i4,i5,i6,i7,h6,h5,h0])
        refine ⟨⟨(by simp (maxSteps:=1000000)(disch:=(first|omega|(simp only [qI,qJ,qK]<;>omega)|exact qL _)) only [go_sem,↓reduceIte,n0,reduceCtorEq,n1,n2,n3,n4,n5,i0,i1,i2,i3,i4,i5,i6,i7,Holds_nil,Holds_cons,h6,h5,h0]),j + 1,(by simp (maxSteps:=1000000)(disch:=(first|omega|(simp only [qI,qJ,qK]<;>omega)|exact qL _)) only [go_sem,↓reduceIte,n0,reduceCtorEq,n1,n2,n3,n4,n5,i0,i1,i2,i3,i4,i5,i6,i7,h6];all_goals rfl),by omega,hE2⟩,?_⟩
        try simp (maxSteps:=1000000)(disch:=(first|omega|(simp only [qI,qJ,qK]<;>omega)|exact qL _)) only [go_sem,↓reduceIte,n0,reduceCtorEq,n1,n2,n3,n4,n5,i0,i1,i2,i3,i4,i5,i6,i7,h6]
        simp only [RowKit.intOf]
        omega
    · repeat ((first | refine qA rfl ?_|refine qB ?_|refine qC rfl ?_|refine qD ?_|refine qE ?_|refine qF ?_|refine qG ?_|refine qH ?_);try simp (maxSteps:=1000000)(disch:=(first|omega|(simp only [qI,qJ,qK]<;>omega)|exact qL _)) only [go_sem,↓reduceIte,n0,reduceCtorEq,n1,n2,n3,n4,n5,i0,i1,i2,i3,i4,i5,i6,i7,h6,h5])
      exact ⟨trivial,hE⟩
  · rintro ρ w1 ⟨-,hE⟩
    repeat ((first | refine qA rfl ?_|refine qB ?_|refine qC rfl ?_|refine qD ?_|refine qE ?_|refine qF ?_|refine qG ?_|refine qH ?_);try simp (maxSteps:=1000000)(disch:=(first|omega|(simp only [qI,qJ,qK]<;>omega)|exact qL _)) only [go_sem,↓reduceIte,n0,reduceCtorEq,n1,n2,n3,n4,n5,i0,i1,i2,i3,i4,i5,i6,i7])
    exact hE

end Ms

namespace Ms
open Nat renaming reduceEqDiff → n0,reduceAdd → n1,reduceMul → n2,reduceSub → n3,reduceLT → n4,reduceLeDiff → n5
open Int renaming reduceEq → i0,reduceLT → i1,reduceLE → i2,reduceNeg → i3,reduceAdd → i4,reduceSub → i5,reduceMul → i6,reduceToNat → i7
set_option maxRecDepth 4000
open Go Go.Proofs Go.Shelf
def slRen : Ren where
  f := fun x => match x with
    | 6 => 209
    | 10 => 290
    | 11 => 291
    | 12 => 292
    | 13 => 293
    | 14 => 294
    | 24 => 323
    | 25 => 324
    | 26 => 325
    | 27 => 326
    | 28 => 327
    | 29 => 328
    | 30 => 329
    | 31 => 330
    | 32 => 331
    | 33 => 332
    | 34 => 337
    | 35 => 338
    | 36 => 339
    | 37 => 340
    | 38 => 341
    | 39 => 342
    | n => n
  t := fun x => match x with
    | 20 => 20
    | 26 => 235
    | 35 => 314
    | 0 => 0
    | 37 => 316
    | 3 => 3
    | 41 => 319
    | 44 => 322
    | 49 => 62
    | 51 => 242
    | 4 => 4
    | 54 => 340
    | 53 => 339
    | 58 => 344
    | 5 => 5
    | 9 => 9
    | 60 => 346
    | 64 => 349
    | 66 => 351
    | 67 => 352
    | 17 => 17
    | 32 => 311
    | 33 => 312
    | 82 => 367
    | 12 => 12
    | 75 => 360
    | 76 => 361
    | 77 => 362
    | 78 => 363
    | 79 => 364
    | 80 => 365
    | n => n
  g := fun n => n
theorem sl6 : LaysGg.n6 Tryd.prog slRen where
  mixed := by kernel_rfl
  f6 := by kernel_rfl
  f10 := by kernel_rfl
  f11 := by kernel_rfl
  f12 := by kernel_rfl
  f13 := by kernel_rfl
  f14 := by kernel_rfl
  f24 := by kernel_rfl
  f25 := by kernel_rfl
  f26 := by kernel_rfl
  f27 := by kernel_rfl
  f28 := by kernel_rfl
  f29 := by kernel_rfl
  f30 := by kernel_rfl
  f31 := by kernel_rfl
  f32 := by kernel_rfl
  f33 := by kernel_rfl
  f34 := by kernel_rfl
  f35 := by kernel_rfl
  f36 := by kernel_rfl
  f37 := by kernel_rfl
  f38 := by kernel_rfl
  f39 := by kernel_rfl
  t0 := Tryd.underlying0
  a0 := Tryd.isAgg0
  z0 := Tryd.sizeOf0
  v0 := Tryd.zeroValue0
  i0 := by kernel_rfl
  t3 := Tryd.underlying3
  a3 := Tryd.isAgg3
  z3 := Tryd.sizeOf3
  v3 := Tryd.zeroValue3
  i3 := by kernel_rfl
  t4 := Tryd.underlying4
  a4 := Tryd.isAgg4
  z4 := Tryd.sizeOf4
  v4 := Tryd.zeroValue4
  i4 := by kernel_rfl
  t5 := Tryd.underlying5
  a5 := Tryd.isAgg5
  z5 := Tryd.sizeOf5
  v5 := Tryd.zeroValue5
  i5 := by kernel_rfl
  t9 := Tryd.underlying9
  a9 := Tryd.isAgg9
  z9 := Tryd.sizeOf9
  v9 := Tryd.zeroValue9
  i9 := by kernel_rfl
  t12 := Tryd.underlying12
  a12 := Tryd.isAgg12
  z12 := Tryd.sizeOf12
  v12 := Tryd.zeroValue12
  i12 := by kernel_rfl
  t17 := Tryd.underlying17
  a17 := Tryd.isAgg17
  z17 := Tryd.sizeOf17
  v17 := Tryd.zeroValue17
  i17 := by kernel_rfl
  t20 := Tryd.underlying20
  a20 := Tryd.isAgg20
  z20 := Tryd.sizeOf20
  v20 := Tryd.zeroValue20
  i20 := by kernel_rfl
  t26 := Tryd.underlying235
  a26 := Tryd.isAgg235
  z26 := Tryd.sizeOf235
  v26 := Tryd.zeroValue235
  i26 := by kernel_rfl
  t32 := Tryd.underlying311
  a32 := Tryd.isAgg311
  z32 := Tryd.sizeOf311
  v32 := Tryd.zeroValue311
  i32 := by kernel_rfl
  t33 := Tryd.underlying312
  a33 := Tryd.isAgg312
  z33 := Tryd.sizeOf312
  v33 := Tryd.zeroValue312
  i33 := by kernel_rfl
  t35 := Tryd.underlying314
  a35 := Tryd.isAgg314
  z35 := Tryd.sizeOf314
  v35 := Tryd.zeroValue314
  i35 := by kernel_rfl
  t37 := Tryd.underlying316
  a37 := Tryd.isAgg316
  z37 := Tryd.sizeOf316
  v37 := Tryd.zeroValue316
  i37 := by kernel_rfl
  t41 := Tryd.underlying319
  a41 := Tryd.isAgg319
  z41 := Tryd.sizeOf319
  v41 := Tryd.zeroValue319
  i41 := by kernel_rfl
  t44 := Tryd.underlying322
  a44 := Tryd.isAgg322
  z44 := Tryd.sizeOf322
  v44 := Tryd.zeroValue322
  i44 := by kernel_rfl
  t49 := Tryd.underlying62
  a49 := Tryd.isAgg62
  z49 := Tryd.sizeOf62
  v49 := Tryd.zeroValue62
  i49 := by kernel_rfl
  t51 := Tryd.underlying242
  a51 := Tryd.isAgg242
  z51 := Tryd.sizeOf242
  v51 := Tryd.zeroValue242
  i51 := by kernel_rfl
  t53 := Tryd.underlying339
  a53 := Tryd.isAgg339
  z53 := Tryd.sizeOf339
  v53 := Tryd.zeroValue339
  i53 := by kernel_rfl
  t54 := Tryd.underlying340
  a54 := Tryd.isAgg340
  z54 := Tryd.sizeOf340
  v54 := Tryd.zeroValue340
  i54 := by kernel_rfl
  t58 := Tryd.underlying344
  a58 := Tryd.isAgg344
  z58 := Tryd.sizeOf344
  v58 := Tryd.zeroValue344
  i58 := by kernel_rfl
  t60 := Tryd.underlying346
  a60 := Tryd.isAgg346
  z60 := Tryd.sizeOf346
  v60 := Tryd.zeroValue346
  i60 := by kernel_rfl
  t64 := Tryd.underlying349
  a64 := Tryd.isAgg349
  z64 := Tryd.sizeOf349
  v64 := Tryd.zeroValue349
  i64 := by kernel_rfl
  t66 := Tryd.underlying351
  a66 := Tryd.isAgg351
  z66 := Tryd.sizeOf351
  v66 := Tryd.zeroValue351
  i66 := by kernel_rfl
  t67 := Tryd.underlying352
  a67 := Tryd.isAgg352
  z67 := Tryd.sizeOf352
  v67 := Tryd.zeroValue352
  i67 := by kernel_rfl
  t75 := Tryd.underlying360
  a75 := Tryd.isAgg360
  z75 := Tryd.sizeOf360
  v75 := Tryd.zeroValue360
  i75 := by kernel_rfl
  t76 := Tryd.underlying361
  a76 := Tryd.isAgg361
  z76 := Tryd.sizeOf361
  v76 := Tryd.zeroValue361
  i76 := by kernel_rfl
  t77 := Tryd.underlying362
  a77 := Tryd.isAgg362
  z77 := Tryd.sizeOf362
  v77 := Tryd.zeroValue362
  i77 := by kernel_rfl
  t78 := Tryd.underlying363
  a78 := Tryd.isAgg363
  z78 := Tryd.sizeOf363
  v78 := Tryd.zeroValue363
  i78 := by kernel_rfl
  t79 := Tryd.underlying364
  a79 := Tryd.isAgg364
  z79 := Tryd.sizeOf364
  v79 := Tryd.zeroValue364
  i79 := by kernel_rfl
  t80 := Tryd.underlying365
  a80 := Tryd.isAgg365
  z80 := Tryd.sizeOf365
  v80 := Tryd.zeroValue365
  i80 := by kernel_rfl
  t82 := Tryd.underlying367
  a82 := Tryd.isAgg367
  z82 := Tryd.sizeOf367
  v82 := Tryd.zeroValue367
  i82 := by kernel_rfl
end Ms

namespace Ms
open Nat renaming reduceEqDiff → n0,reduceAdd → n1,reduceMul → n2,reduceSub → n3,reduceLT → n4,reduceLeDiff → n5
open Int renaming reduceEq → i0,reduceLT → i1,reduceLE → i2,reduceNeg → i3,reduceAdd → i4,reduceSub → i5,reduceMul → i6,reduceToNat → i7
set_option maxRecDepth 4000
open Go Go.Proofs Go.Shelf
attribute [local congr] W_congr WPsq_congr WPp_congr optK_congr addrK_congr intK_congr boolK_congr sliceK_congr tupleK_congr funcK_congr Fn_congr rawK_congr takeK_congr stepK_congr convK_congr aggK_congr

theorem calls_bool {P : Program} {f : Nat} {args : Array Value} {w W : World} {b : Bool} (h : Fn P f args w fun r w' => r = .bool b ∧ w' = W.drew) : Calls P f args w fun e w' => e = .returned (.bool b) ∧ ∃ q,w' = W.drewN q :=
  Calls.mono h fun e w' he => by
    cases e with
    | returned v => exact ⟨by rw [he.1],1,he.2⟩
    | _ => exact he.elim

theorem sort_fn {row c b4 N : Nat} {y : Blk} {fr : Nat × Nat} {rest : List Value} (xs : Array Nat) (w : World) (hrow : blk w row = some ((xs.toList.map u32V ++ rest).toArray,62,fr)) (ht : thaw fr 0 N = true) (hN : xs.size ≤ N)
    (hb4 : blk w b4 = some y) (hy : y.1[0]? = some (.slice (some ⟨row,0,none⟩) xs.size c)) (hne : b4 ≠ row) (ks : List Nat) (hp : xs.toList.Perm ks) (hk : ks.Pairwise (· < ·)) (hsz : xs.size < 4611686018427387904) :
    Fn Tryd.prog 209 #[.iface 233 (.slice (some ⟨row,0,none⟩) xs.size c),.func (.func 210) #[] #[.pointer (some ⟨b4,0,none⟩)]] w fun _ w' =>
      Upd (fun b => b = row) w w' ∧ blk w' row = some ((ks.map u32V ++ rest).toArray,62,fr) := by
  have hT : (Tryd.prog.info? 233).map (fun i => i.desc) = some (.slice 62) := by kernel_rfl
  obtain ⟨iT,hiT,hdT⟩ := Option.map_eq_some_iff.1 hT
  have hE : (Tryd.prog.info? 62).map (fun i => (i.size,i.hasPointers,i.bytes)) = some (1,false,4) := by kernel_rfl
  obtain ⟨iE,hiE,hdE⟩ := Option.map_eq_some_iff.1 hE
  have hE1 : iE.size = 1 := congrArg (·.1) hdE
  have hE2 : iE.hasPointers = false := congrArg (·.2.1) hdE
  have hE3 : iE.bytes = 4 := congrArg (·.2.2) hdE
  have hpk : Tryd.prog.packed 233 = false := by kernel_rfl
  have hagg : ∀ w,(isAgg 62).run Tryd.prog w = .ok false w := fun _ => by kernel_rfl
  have hke : ∀ w,(Extern.Rtype.kind 62).run Tryd.prog w = .ok 10 w := fun _ => by kernel_rfl
  by_cases h2 : 2 ≤ xs.size
  · have hsK : Lib.swapperK xs.size iE 10 = 6 := by
      have c : (xs.size == 0) = false := beq_eq_false_iff_ne.2 (by omega)
      have d : (xs.size == 1) = false := beq_eq_false_iff_ne.2 (by omega)
      simp [Lib.swapperK,hE2,hE3,c,d]
    have hf : Tryd.prog.funcs.findIdx? (·.name == "internal/reflectlite" ++ ".Swapper$" ++ toString (Lib.swapperK xs.size iE 10)) = some 319 := by rw [hsK];kernel_rfl
    have hless : LessReads Tryd.prog 210 #[.pointer (some ⟨b4,0,none⟩)] u32V ltNat row 0 xs.size w := by
      intro m os dk hs i j hi hj
      refine calls_bool ?_
      have hrow' : blk (Go.Sort.grow (Go.Sort.putRow u32V (Go.Sort.ahead w m) row 0 dk) os) row = some ((dk.toList.map u32V ++ rest).toArray,62,fr) := by
        rw [blk_putRow hrow]
        simp only [putCells_row xs dk rest hs]
      have hb4' : blk (Go.Sort.grow (Go.Sort.putRow u32V (Go.Sort.ahead w m) row 0 dk) os) b4 = some y := (upd_putRow w m row 0 dk os).blk_some hb4 hne
      have at_ : ∀ t,t < xs.size → ((dk.toList.map u32V ++ rest).toArray)[t]? = some (u32V dk[t]!) := by
        intro t ht
        rw [List.getElem?_toArray,List.getElem?_append_left (by simp;omega),List.getElem?_map,Array.getElem?_toList,Array.getElem?_eq_getElem (by omega),getElem!_pos dk t (by omega)]
        rfl
      exact less_fn (row := row) (bx := b4) _ hb4' hy hrow' hi hj (at_ i hi) (at_ j hj)
    have hS := Any.sort_Slice_sorted sl6 233 62 iT iE hiT hdT hpk hiE 10 hke hE1 hagg u32V (fun _ => rfl) ltNat swo_ltNat 210 _
      (enters_of Tryd.func210 (by kernel_rfl) rfl) row 0 c xs h2 hsz 319 hf true
      (fun args W => run_callFunc_extern Tryd.func319 (by kernel_rfl) (by kernel_rfl) (by kernel_rfl) (e := Extern.ReflectliteSwapper.swap true) (by kernel_rfl) args W) w hless (holds_row hrow ht hN) (blk_lt hrow)
    change Calls Tryd.prog 209 _ _ _ at hS
    refine Calls.mono hS ?_
    rintro e w' ⟨rfl,d',n,os,hP,hSo,rfl⟩
    have hd := sorted_keys hP hSo hp hk
    refine ⟨upd_putRow w n row 0 d' os,?_⟩
    rw [blk_putRow hrow]
    simp only [putCells_row xs d' rest hP.1,hd]
  · have hf : ∃ f,Tryd.prog.funcs.findIdx? (·.name == "internal/reflectlite" ++ ".Swapper$" ++ toString (Lib.swapperK xs.size iE 10)) = some f := by
      have h01 : xs.size = 0 ∨ xs.size = 1 := by omega
      rcases h01 with h | h
      · refine ⟨314,?_⟩
        rw [h]
        kernel_rfl
      · refine ⟨315,?_⟩
        rw [h]
        kernel_rfl
    obtain ⟨f,hf⟩ := hf
    have hS := Any.sort_Slice_tiny sl6 233 62 iT iE hiT hdT hpk hiE 10 hke (some ⟨row,0,none⟩) xs.size c (by omega) f hf (.func 210) #[] #[.pointer (some ⟨b4,0,none⟩)] w
    change Calls Tryd.prog 209 _ _ _ at hS
    refine Calls.mono hS ?_
    rintro e w' ⟨rfl,os,rfl⟩
    have hd : xs.toList = ks := sorted_keys (xs := xs) (d' := xs) ⟨rfl,fun _ _ => rfl,List.Perm.refl _⟩ (fun i j _ h1 h2 => by omega) hp hk
    refine ⟨(upd_grow w os).upd,?_⟩
    rw [(upd_grow w os).blk (blk_lt hrow) (fun h => h),hrow,hd]
end Ms

namespace Ms
open Go.World renaming size_alloc → qI
open Ms renaming size_wr → qJ,size_drew → qK,not_noB → qL
open W renaming seqR → qA,seq → qB,regR → qC,condK → qD,block → qE,skip → qF,ret → qG,exit → qH
open Nat renaming reduceEqDiff → n0,reduceAdd → n1,reduceMul → n2,reduceSub → n3,reduceLT → n4,reduceLeDiff → n5
open Int renaming reduceEq → i0,reduceLT → i1,reduceLE → i2,reduceNeg → i3,reduceAdd → i4,reduceSub → i5,reduceMul → i6,reduceToNat → i7
set_option maxRecDepth 4000
open Go Go.Proofs Go.Shelf
attribute [local congr] W_congr WPsq_congr WPp_congr optK_congr addrK_congr intK_congr boolK_congr sliceK_congr tupleK_congr funcK_congr Fn_congr rawK_congr takeK_congr stepK_congr convK_congr aggK_congr

set_option maxHeartbeats 1000000 in
theorem EachG_fn {ok : Blocks} (F : Nat) (hF : callable Tryd.prog F = true) (lb : Array Value) {tb to : Nat} {x : Blk} {m : Value} {u u0 : List TagD} (w : World)
    (hb : blk w tb = some x) (hm : x.1[to]? = some m) (ht : TagsM ok w m u0) (hpm : u.Perm u0) (hs : (u.map (·.1)).Pairwise (· < ·)) (hlen : u.length ≤ 32767)
    (S : Nat → Prop) (hS1 : ¬ S tb) (hS2 : ∀ b,b < w.heap.size → ok b → ¬ S b) (hS3 : ∀ b,S b → b < w.heap.size)
    (I : World → List TagD → World → Prop) (h0 : ∀ wl,Ext w wl → I wl [] wl)
    (hstep : ∀ wl,Ext w wl → ∀ done y vv w1,(done ++ [y]) <+: u → I wl done w1 → Upd S wl w1 → BytesV ok w vv y.2 → y.1 < 2 ^ 32 → Fn Tryd.prog F (#[.int .u32 y.1,vv] ++ lb) w1 fun _ w2 => I wl (done ++ [y]) w2 ∧ Upd S wl w2) :
    Fn Tryd.prog 140 #[.pointer (some ⟨tb,to,none⟩),.func (.func F) #[] lb] w fun _ w' => ∃ wl,Ext w wl ∧ I wl u w' ∧ Upd S wl w' := by
  have hbl := blk_lt hb
  refine fn_of_W Tryd.func140 rfl Tryd.results140 Tryd.ntmps140 rfl ?_
  have hul := hpm.length_eq
  rcases ht with ⟨rfl,rfl⟩ | ⟨r,es,clock,rfl,hok,hr,hsz,he,hinj⟩
  · obtain rfl : u = [] := hpm.eq_nil
    repeat ((first | refine qA rfl ?_|refine qB ?_|refine qC rfl ?_|refine qD ?_|refine qE ?_|refine qF ?_|refine qG ?_|refine qH ?_);try simp (maxSteps:=1000000)(disch:=(first|omega|(simp only [qI,qJ,qK]<;>omega)|exact qL _)) only [go_sem,↓reduceIte,n0,reduceCtorEq,n1,n2,n3,n4,n5,i0,i1,i2,i3,i4,i5,i6,i7,hb,hm])
    refine wp_len_nil tagsT rfl ?_
    simp (maxSteps:=1000000)(disch:=(first|omega|(simp only [qI,qJ,qK]<;>omega)|exact qL _)) only [go_sem,↓reduceIte,n0,reduceCtorEq,n1,n2,n3,n4,n5,i0,i1,i2,i3,i4,i5,i6,i7]
    repeat ((first | refine qA rfl ?_|refine qB ?_|refine qC rfl ?_|refine qD ?_|refine qE ?_|refine qF ?_|refine qG ?_|refine qH ?_);try simp (maxSteps:=1000000)(disch:=(first|omega|(simp only [qI,qJ,qK]<;>omega)|exact qL _)) only [go_sem,↓reduceIte,n0,reduceCtorEq,n1,n2,n3,n4,n5,i0,i1,i2,i3,i4,i5,i6,i7])
    exact ⟨w,Upd.refl _ _,h0 w (Upd.refl _ _),Upd.refl _ _⟩
  have hrl := heap_lt hr
  repeat ((first | refine qA rfl ?_|refine qB ?_|refine qC rfl ?_|refine qD ?_|refine qE ?_|refine qF ?_|refine qG ?_|refine qH ?_);try simp (maxSteps:=1000000)(disch:=(first|omega|(simp only [qI,qJ,qK]<;>omega)|exact qL _)) only [go_sem,↓reduceIte,n0,reduceCtorEq,n1,n2,n3,n4,n5,i0,i1,i2,i3,i4,i5,i6,i7,hb,hm])
  refine wp_len_map tagsT rfl hr ?_
  by_cases hz : u.length = 0
  · have hz1 : (es.size : Int) = 0 := by omega
    obtain rfl : u = [] := List.eq_nil_of_length_eq_zero hz
    simp (maxSteps:=1000000)(disch:=(first|omega|(simp only [qI,qJ,qK]<;>omega)|exact qL _)) only [go_sem,↓reduceIte,n0,reduceCtorEq,n1,n2,n3,n4,n5,i0,i1,i2,i3,i4,i5,i6,i7,hz1]
    repeat ((first | refine qA rfl ?_|refine qB ?_|refine qC rfl ?_|refine qD ?_|refine qE ?_|refine qF ?_|refine qG ?_|refine qH ?_);try simp (maxSteps:=1000000)(disch:=(first|omega|(simp only [qI,qJ,qK]<;>omega)|exact qL _)) only [go_sem,↓reduceIte,n0,reduceCtorEq,n1,n2,n3,n4,n5,i0,i1,i2,i3,i4,i5,i6,i7])
    exact ⟨w,Upd.refl _ _,h0 w (Upd.refl _ _),Upd.refl _ _⟩
  have hz1 : ¬ (es.size : Int) = 0 := by omega
  simp (maxSteps:=1000000)(disch:=(first|omega|(simp only [qI,qJ,qK]<;>omega)|exact qL _)) only [go_sem,↓reduceIte,n0,reduceCtorEq,n1,n2,n3,n4,n5,i0,i1,i2,i3,i4,i5,i6,i7,hz1]
  repeat ((first | refine qA rfl ?_|refine qB ?_|refine qC rfl ?_|refine qD ?_|refine qE ?_|refine qF ?_|refine qG ?_|refine qH ?_);try simp (maxSteps:=1000000)(disch:=(first|omega|(simp only [qI,qJ,qK]<;>omega)|exact qL _)) only [go_sem,↓reduceIte,n0,reduceCtorEq,n1,n2,n3,n4,n5,i0,i1,i2,i3,i4,i5,i6,i7,hb,hm])
  refine wp_len_map tagsT rfl hr ?_
  simp (maxSteps:=1000000)(disch:=(first|omega|(simp only [qI,qJ,qK]<;>omega)|exact qL _)) only [go_sem,↓reduceIte,n0,reduceCtorEq,n1,n2,n3,n4,n5,i0,i1,i2,i3,i4,i5,i6,i7]
  refine wp_make (T := 233) (E := 62) (size := 1) (bytes := 4) (z := .int .u32 0) (l := 0) (c := es.size) (kl := .i64) (kc := .i64) (by kernel_rfl) (by kernel_rfl) (by simp (maxSteps:=1000000)(disch:=(first|omega|(simp only [qI,qJ,qK]<;>omega)|exact qL _)) only [go_sem,↓reduceIte,n0,reduceCtorEq,n1,n2,n3,n4,n5,i0,i1,i2,i3,i4,i5,i6,i7];rfl) (by simp (maxSteps:=1000000)(disch:=(first|omega|(simp only [qI,qJ,qK]<;>omega)|exact qL _)) only [go_sem,↓reduceIte,n0,reduceCtorEq,n1,n2,n3,n4,n5,i0,i1,i2,i3,i4,i5,i6,i7]) (by omega) (by omega) (by omega) ?_
  simp (maxSteps:=1000000)(disch:=(first|omega|(simp only [qI,qJ,qK]<;>omega)|exact qL _)) only [go_sem,↓reduceIte,n0,reduceCtorEq,n1,n2,n3,n4,n5,i0,i1,i2,i3,i4,i5,i6,i7]
  have hsl : es.size ≤ 32767 := by omega
  generalize hw2 : (wr ((w.alloc (.cells (madeCells #[.int .u32 0] (es.size * 1)) 62)).alloc (.cells #[.slice none 0 0] 233)) (w.heap.size + 1) 0 [.slice (some ⟨w.heap.size,0,none⟩) 0 es.size]) = w2
  have hE2 : Ext w w2 := by rw [← hw2];exact (Upd.alloc (Upd.alloc (Upd.refl _ _) _) _).wr _ _ (.inl (by omega))
  have hz2 : w2.heap.size = w.heap.size + 2 := by rw [← hw2];simp only [size_wr,World.size_alloc]
  have hrow2 : blk w2 w.heap.size = some ((List.replicate es.size (.int .u32 0)).toArray,62,(0,0)) := by rw [← hw2];simp (maxSteps:=1000000)(disch:=(first|omega|(simp only [qI,qJ,qK]<;>omega)|exact qL _)) only [go_sem,↓reduceIte,n0,reduceCtorEq,n1,n2,n3,n4,n5,i0,i1,i2,i3,i4,i5,i6,i7,made_one,Nat.mul_one]
  have hown2 : Own w.heap.size w2 62 1 (.slice (some ⟨w.heap.size,0,none⟩) 0 es.size) 0 [] := ⟨rfl,.inr ⟨w.heap.size,es.size,List.replicate es.size (.int .u32 0),(0,0),rfl,Nat.le_refl _,hrow2,by simp,thaw_00 _ _,Nat.zero_le _⟩⟩
  have hbx2 : blk w2 (w.heap.size + 1) = some (#[.slice (some ⟨w.heap.size,0,none⟩) 0 es.size],233,(0,0)) := by rw [← hw2];simp (maxSteps:=1000000)(disch:=(first|omega|(simp only [qI,qJ,qK]<;>omega)|exact qL _)) only [go_sem,↓reduceIte,n0,reduceCtorEq,n1,n2,n3,n4,n5,i0,i1,i2,i3,i4,i5,i6,i7]
  have hb2 : blk w2 tb = some x := hE2.blk_some hb id
  have hr2 : w2.heap[r]? = some (.map es clock) := by rw [hE2.keep r hrl id];exact hr
  clear hw2 hrow2
  repeat ((first | refine qA rfl ?_|refine qB ?_|refine qC rfl ?_|refine qD ?_|refine qE ?_|refine qF ?_|refine qG ?_|refine qH ?_);try simp (maxSteps:=1000000)(disch:=(first|omega|(simp only [qI,qJ,qK]<;>omega)|exact qL _)) only [go_sem,↓reduceIte,n0,reduceCtorEq,n1,n2,n3,n4,n5,i0,i1,i2,i3,i4,i5,i6,i7,hb2,hm])
  refine wp_range tagsT rfl hr2 ?_
  simp (maxSteps:=1000000)(disch:=(first|omega|(simp only [qI,qJ,qK]<;>omega)|exact qL _)) only [go_sem,↓reduceIte,n0,reduceCtorEq,n1,n2,n3,n4,n5,i0,i1,i2,i3,i4,i5,i6,i7]
  generalize hw3 : w2.alloc (.mapIter (some r) clock #[] clock) = w3
  have hE3 : Ext w w3 := by rw [← hw3];exact hE2.alloc _
  have hz3 : w3.heap.size = w2.heap.size + 1 := by rw [← hw3,World.size_alloc]
  have hit3 : w3.heap[w2.heap.size]? = some (.mapIter (some r) clock #[] clock) := by
    rw [← hw3];show (w2.heap.push _)[w2.heap.size]? = _;simp
  have hown3 : Own w.heap.size w3 62 1 (.slice (some ⟨w.heap.size,0,none⟩) 0 es.size) 0 [] := by rw [← hw3];exact hown2.alloc _
  have hbx3 : blk w3 (w.heap.size + 1) = some (#[.slice (some ⟨w.heap.size,0,none⟩) 0 es.size],233,(0,0)) := by rw [← hw3,blk_alloc_old (by omega)];exact hbx2
  clear hw3 hown2 hbx2 hb2 hr2
  have hold := tm_old hsz he
  have hnod := tm_nodup hinj
  have hKU := tm_keysU hsz he
  have hkeys := tm_keys hsz he
  repeat ((first | refine qA rfl ?_|refine qB ?_|refine qC rfl ?_|refine qD ?_|refine qE ?_|refine qF ?_|refine qG ?_|refine qH ?_);try simp (maxSteps:=1000000)(disch:=(first|omega|(simp only [qI,qJ,qK]<;>omega)|exact qL _)) only [go_sem,↓reduceIte,n0,reduceCtorEq,n1,n2,n3,n4,n5,i0,i1,i2,i3,i4,i5,i6,i7])
  refine W.exitJ 0 (fun ρ w' => ∃ seen xs l rest v,Ranged es seen xs l rest ∧ (leftOf es seen).size = 0 ∧ blk w' (w.heap.size + 1) = some (#[v],233,(0,0)) ∧ Own w.heap.size w' 62 1 v xs.length (xs.map u32V) ∧ Ext w w' ∧
      ρ 0 = .pointer (some ⟨tb,to,none⟩) ∧ ρ 1 = .func (.func F) #[] lb ∧ ρ 4 = .pointer (some ⟨w.heap.size + 1,0,none⟩))
    (W.loop (fun ρ w' => ∃ seen xs l rest v,Ranged es seen xs l rest ∧ w'.heap[w2.heap.size]? = some (.mapIter (some r) clock seen clock) ∧ blk w' (w.heap.size + 1) = some (#[v],233,(0,0)) ∧ Own w.heap.size w' 62 1 v xs.length (xs.map u32V) ∧ Ext w w' ∧
      ρ 0 = .pointer (some ⟨tb,to,none⟩) ∧ ρ 1 = .func (.func F) #[] lb ∧ ρ 4 = .pointer (some ⟨w.heap.size + 1,0,none⟩) ∧ ρ 24 = .pointer (some ⟨w2.heap.size,0,none⟩))
      (fun _ w' => es.size - lenBox (blk w' (w.heap.size + 1))) ?_ ?_) ?_
  · refine ⟨#[],[],[],es.toList,_,Ranged.start es,hit3,hbx3,hown3,hE3,?_,?_,?_,?_⟩ <;> simp (maxSteps:=1000000)(disch:=(first|omega|(simp only [qI,qJ,qK]<;>omega)|exact qL _)) only [go_sem,↓reduceIte,n0,reduceCtorEq,n1,n2,n3,n4,n5,i0,i1,i2,i3,i4,i5,i6,i7]
  · rintro ρ w4 ⟨seen,xs,l,rest,v,hR,hit,hbx,hown,hE4,h0',h1',h4,h24⟩
    have hr4 : w4.heap[r]? = some (.map es clock) := by rw [hE4.keep r hrl id];exact hr
    have hz4 := hE4.size
    have hitl := heap_lt hit
    obtain ⟨va,vc,rfl,hvc⟩ := hown.shape
    have hlb : lenBox (blk w4 (w.heap.size + 1)) = xs.length := by rw [hbx];rfl
    repeat ((first | refine qA rfl ?_|refine qB ?_|refine qC rfl ?_|refine qD ?_|refine qE ?_|refine qF ?_|refine qG ?_|refine qH ?_);try simp (maxSteps:=1000000)(disch:=(first|omega|(simp only [qI,qJ,qK]<;>omega)|exact qL _)) only [go_sem,↓reduceIte,n0,reduceCtorEq,n1,n2,n3,n4,n5,i0,i1,i2,i3,i4,i5,i6,i7])
    refine wp_next (r := w2.heap.size) (by simp (maxSteps:=1000000)(disch:=(first|omega|(simp only [qI,qJ,qK]<;>omega)|exact qL _)) only [go_sem,↓reduceIte,n0,reduceCtorEq,n1,n2,n3,n4,n5,i0,i1,i2,i3,i4,i5,i6,i7,h24]) hit hr4 hold (Nat.le_refl _) ?_ ?_
    · intro hl0
      simp (maxSteps:=1000000)(disch:=(first|omega|(simp only [qI,qJ,qK]<;>omega)|exact qL _)) only [go_sem,↓reduceIte,n0,reduceCtorEq,n1,n2,n3,n4,n5,i0,i1,i2,i3,i4,i5,i6,i7]
      repeat ((first | refine qA rfl ?_|refine qB ?_|refine qC rfl ?_|refine qD ?_|refine qE ?_|refine qF ?_|refine qG ?_|refine qH ?_);try simp (maxSteps:=1000000)(disch:=(first|omega|(simp only [qI,qJ,qK]<;>omega)|exact qL _)) only [go_sem,↓reduceIte,n0,reduceCtorEq,n1,n2,n3,n4,n5,i0,i1,i2,i3,i4,i5,i6,i7])
      exact ⟨seen,xs,l,rest,_,hR,hl0,hbx,hown,hE4,h0',h1',h4⟩
    · intro e hel w5 hw5
      obtain ⟨rest',hR',hlt⟩ := hR.step hel
      obtain ⟨hee,_⟩ := mem_leftOf hel
      obtain ⟨kn,hkn⟩ := hKU e hee
      have hknn : e.key = u32V (keyN e) := by
        obtain ⟨i,hi,rfl⟩ := List.getElem_of_mem hee
        simp only [Array.length_toList] at hi
        have := (he i (by omega) hi).1.key
        simp only [Array.getElem_toList,keyN,this]
        simp [u32V]
      have hE45 : Ext w4 w5 := by rcases hw5 with rfl | rfl;exact Upd.refl _ _;exact (Upd.refl _ _).drew
      have hh45 : w5.heap = w4.heap := by rcases hw5 with rfl | rfl <;> rfl
      generalize hw6 : Go.ChangeMaps.setBlock w5 w2.heap.size (.mapIter (some r) clock (seen.push e.born) clock) = w6
      have hE6 : Ext w w6 := by rw [← hw6];exact (hE4.trans hE45).setBlock _ _ (.inl (by omega))
      have hU6 : Upd (fun b => b = w2.heap.size) w5 w6 := by rw [← hw6];exact (Upd.refl _ _).setBlock _ _ (.inr rfl)
      have hz6 : w6.heap.size = w4.heap.size := by rw [← hw6,setBlock_size,hh45]
      have hit6 : w6.heap[w2.heap.size]? = some (.mapIter (some r) clock (seen.push e.born) clock) := by rw [← hw6,setBlock_same _ _ _ (by rw [hh45];exact hitl)]
      have hr6 : w6.heap[r]? = some (.map es clock) := by rw [hE6.keep r hrl id];exact hr
      have hbx5 : blk w5 (w.heap.size + 1) = some (#[.slice va xs.length vc],233,(0,0)) := by rw [blk_of_heap (w := w4) (w' := w5) (by rw [hh45])];exact hbx
      have hbx6 : blk w6 (w.heap.size + 1) = some (#[.slice va xs.length vc],233,(0,0)) := hU6.blk_some hbx5 (by omega)
      have hne : ¬ ownB (.slice va xs.length vc) w2.heap.size := own_ne hown fun y hy => by
        unfold blk at hy;rw [hit] at hy;cases hy
      have hown6 : Own w.heap.size w6 62 1 (.slice va xs.length vc) xs.length (xs.map u32V) := Own.upd (Own.upd hown hE45 fun _ _ h => h) hU6 fun b hb e => hne (e ▸ hb)
      clear hw6
      have hkv : e.key = .int .u32 (keyN e : Nat) := hknn
      clear hknn hkn
      generalize keyN e = kk at *
      simp (maxSteps:=1000000)(disch:=(first|omega|(simp only [qI,qJ,qK]<;>omega)|exact qL _)) only [go_sem,↓reduceIte,n0,reduceCtorEq,n1,n2,n3,n4,n5,i0,i1,i2,i3,i4,i5,i6,i7]
      repeat ((first | refine qA rfl ?_|refine qB ?_|refine qC rfl ?_|refine qD ?_|refine qE ?_|refine qF ?_|refine qG ?_|refine qH ?_);try simp (maxSteps:=1000000)(disch:=(first|omega|(simp only [qI,qJ,qK]<;>omega)|exact qL _)) only [go_sem,↓reduceIte,n0,reduceCtorEq,n1,n2,n3,n4,n5,i0,i1,i2,i3,i4,i5,i6,i7])
      refine wp_entry (e := e) (by simp (maxSteps:=1000000)(disch:=(first|omega|(simp only [qI,qJ,qK]<;>omega)|exact qL _)) only [go_sem,↓reduceIte,n0,reduceCtorEq,n1,n2,n3,n4,n5,i0,i1,i2,i3,i4,i5,i6,i7,h24]) hit6 hr6 hee hnod ?_
      simp (maxSteps:=1000000)(disch:=(first|omega|(simp only [qI,qJ,qK]<;>omega)|exact qL _)) only [go_sem,↓reduceIte,n0,reduceCtorEq,n1,n2,n3,n4,n5,i0,i1,i2,i3,i4,i5,i6,i7,hkv]
      repeat ((first | refine qA rfl ?_|refine qB ?_|refine qC rfl ?_|refine qD ?_|refine qE ?_|refine qF ?_|refine qG ?_|refine qH ?_);try simp (maxSteps:=1000000)(disch:=(first|omega|(simp only [qI,qJ,qK]<;>omega)|exact qL _)) only [go_sem,↓reduceIte,n0,reduceCtorEq,n1,n2,n3,n4,n5,i0,i1,i2,i3,i4,i5,i6,i7,hbx6,h4,hkv])
      refine wp_append ap_233_233 (m := 1) (news := [.int .u32 kk]) (n := xs.length) (cs := xs.map u32V) (v := .slice va xs.length vc) ?_ rfl (hown6.alloc (.cells #[.int .u32 kk] 62)) ?_ (Src.blk (fr := (0,0)) (T := 62) (blk_alloc_new rfl) rfl rfl) ?_ ?_ ?_
      · simp (maxSteps:=1000000)(disch:=(first|omega|(simp only [qI,qJ,qK]<;>omega)|exact qL _)) only [go_sem,↓reduceIte,n0,reduceCtorEq,n1,n2,n3,n4,n5,i0,i1,i2,i3,i4,i5,i6,i7]
      · simp only [List.all_map,List.all_eq_true];intro _ _;rfl
      · simp only [World.size_alloc];omega
      · have := hR.len;omega
      intro v' w7 ho7 hu7 hfr7
      obtain ⟨a7,c7,rfl,hc7⟩ := ho7.shape
      have hne6 : ¬ ownB (.slice va xs.length vc) (w.heap.size + 1) := own_ne hown6 fun y hy => by rw [hbx6] at hy;cases hy;exact (by decide : (233 : Nat) ≠ 62)
      have hit6' : ¬ ownB (.slice va xs.length vc) w2.heap.size := hne
      have hE7 : Ext w w7 := Upd.more (hE6.alloc (.cells #[.int .u32 kk] 62)) hu7 fun b hb ho => by have := hown6.above ho;omega
      have hbx7 : blk w7 (w.heap.size + 1) = some (#[.slice va xs.length vc],233,(0,0)) := hu7.blk_some (by rw [blk_alloc_old (by omega)];exact hbx6) hne6
      have hit7 : w7.heap[w2.heap.size]? = some (.mapIter (some r) clock (seen.push e.born) clock) := by
        rw [hu7.keep _ (by simp only [World.size_alloc];omega) hit6',RowKit.Below.heap_alloc _ _ _ (by omega)];exact hit6
      simp (maxSteps:=1000000)(disch:=(first|omega|(simp only [qI,qJ,qK]<;>omega)|exact qL _)) only [go_sem,↓reduceIte,n0,reduceCtorEq,n1,n2,n3,n4,n5,i0,i1,i2,i3,i4,i5,i6,i7,hbx7,h4]
      generalize hw8 : wr w7 (w.heap.size + 1) 0 [.slice a7 (xs.length + 1) c7] = w8
      have hU8 : Upd (fun b => b = w.heap.size + 1) w7 w8 := by rw [← hw8];exact (Upd.refl _ _).wr _ _ (.inr rfl)
      have hE8 : Ext w w8 := by rw [← hw8];exact hE7.wr _ _ (.inl (by omega))
      have hbx8 : blk w8 (w.heap.size + 1) = some (#[.slice a7 (xs.length + 1) c7],233,(0,0)) := by rw [← hw8,blk_wr_eq,hbx7];rfl
      have hne7 : ¬ ownB (.slice a7 (xs.length + 1) c7) (w.heap.size + 1) := own_ne ho7 fun y hy => by rw [hbx7] at hy;cases hy;exact (by decide : (233 : Nat) ≠ 62)
      have hown8 : Own w.heap.size w8 62 1 (.slice a7 (xs.length + 1) c7) (xs ++ [kk]).length ((xs ++ [kk]).map u32V) := by
        have := ho7.upd hU8 (fun b hb e => hne7 (e ▸ hb))
        simpa [u32V] using this
      have hit8 : w8.heap[w2.heap.size]? = some (.mapIter (some r) clock (seen.push e.born) clock) := by rw [hU8.keep _ (heap_lt hit7) (by omega)];exact hit7
      have hlb8 : lenBox (blk w8 (w.heap.size + 1)) = xs.length + 1 := by rw [hbx8];rfl
      clear hw8
      simp (maxSteps:=1000000)(disch:=(first|omega|(simp only [qI,qJ,qK]<;>omega)|exact qL _)) only [go_sem,↓reduceIte,n0,reduceCtorEq,n1,n2,n3,n4,n5,i0,i1,i2,i3,i4,i5,i6,i7,h0',h1',h4,h24]
      refine ⟨⟨_,_,_,_,_,hR',hit8,rfl,hown8,hE8⟩,?_⟩
      rw [hlb];show es.size - (xs.length + 1) < _;omega
  · rintro ρ w4 ⟨seen,xs,l,rest,v,hR,hl0,hbx,hown,hE4,h0',h1',h4⟩
    have hperm := hR.done hl0 hnod
    rw [hkeys] at hperm
    have hxl : xs.length = u.length := by rw [hperm.length_eq,List.length_map,hul]
    rcases hown.2 with ⟨_,h⟩ | ⟨g,cap,rest2,fr,rfl,hg,hgb,hgl,hth,hcap⟩
    · omega
    have hne : w.heap.size + 1 ≠ g := fun e => by
      rw [e] at hbx;rw [hbx] at hgb;simp at hgb
    have hgl4 := blk_lt hgb
    repeat ((first | refine qA rfl ?_|refine qB ?_|refine qC rfl ?_|refine qD ?_|refine qE ?_|refine qF ?_|refine qG ?_|refine qH ?_);try simp (maxSteps:=1000000)(disch:=(first|omega|(simp only [qI,qJ,qK]<;>omega)|exact qL _)) only [go_sem,↓reduceIte,n0,reduceCtorEq,n1,n2,n3,n4,n5,i0,i1,i2,i3,i4,i5,i6,i7,hbx,h4])
    refine (sort_fn (row := g) (c := cap) (b4 := w.heap.size + 1) (N := cap * 1) xs.toArray w4 hgb hth (by simp;omega) hbx rfl hne (u.map (·.1)) (by simpa using hperm.trans (hpm.symm.map (·.1))) hs (by simp;omega)).mono ?_
    rintro r5 w5 ⟨hU5,hg5⟩
    have hE5 : Ext w w5 := Upd.more hE4 hU5 fun b hb e => by omega
    have hbx5 : blk w5 (w.heap.size + 1) = some (#[.slice (some ⟨g,0,none⟩) xs.length cap],233,(0,0)) := hU5.blk_some hbx hne
    repeat ((first | refine qA rfl ?_|refine qB ?_|refine qC rfl ?_|refine qD ?_|refine qE ?_|refine qF ?_|refine qG ?_|refine qH ?_);try simp (maxSteps:=1000000)(disch:=(first|omega|(simp only [qI,qJ,qK]<;>omega)|exact qL _)) only [go_sem,↓reduceIte,n0,reduceCtorEq,n1,n2,n3,n4,n5,i0,i1,i2,i3,i4,i5,i6,i7,hbx5,h4])
    refine W.exitJ 2 (fun ρ w' => I w5 u w' ∧ Upd S w5 w')
      (W.loop (fun ρ w' => ∃ j : Nat,j ≤ u.length ∧ ρ 39 = .int .i64 j ∧ ρ 38 = .int .i64 xs.length ∧ ρ 37 = .slice (some ⟨g,0,none⟩) xs.length cap ∧ ρ 0 = .pointer (some ⟨tb,to,none⟩) ∧ ρ 1 = .func (.func F) #[] lb ∧ I w5 (u.take j) w' ∧ Upd S w5 w')
        (fun ρ _ => u.length - (RowKit.intOf (ρ 39)).toNat) ?_ ?_) ?_
    · refine ⟨0,Nat.zero_le _,?_,?_,?_,?_,?_,h0 w5 hE5,Upd.refl _ _⟩ <;> simp (maxSteps:=1000000)(disch:=(first|omega|(simp only [qI,qJ,qK]<;>omega)|exact qL _)) only [go_sem,↓reduceIte,n0,reduceCtorEq,n1,n2,n3,n4,n5,i0,i1,i2,i3,i4,i5,i6,i7,h0',h1',h4]
      rfl
    · rintro ρ w6 ⟨j,hj,h39,h38,h37,h0',h1',hI,hU⟩
      by_cases hlt : j < u.length
      · have hnS : ∀ b,w.heap.size ≤ b → ¬ S b := fun b hb h => by have := hS3 b h;omega
        have hg6 : blk w6 g = some (((u.map (·.1)).map u32V ++ rest2).toArray,62,fr) := hU.blk_some hg5 (hnS g hg)
        have hb6 : blk w6 tb = some x := hU.blk_some (hE5.blk_some hb id) hS1
        have hr6 : w6.heap[r]? = some (.map es clock) := by
          rw [hU.keep r (Nat.lt_of_lt_of_le hrl hE5.size) (hS2 r hrl hok),hE5.keep r hrl id];exact hr
        have hlt' : (j : Int) < (xs.length : Int) := by omega
        have hlt2 : j < xs.length := by omega
        have hx : (((u.map (·.1)).map u32V ++ rest2).toArray)[j]? = some (.int .u32 (u[j].1 : Nat)) := by
          rw [List.getElem?_toArray,List.getElem?_append_left (by simp;omega)]
          simp [hlt,u32V]
        obtain ⟨i,hi,hie⟩ := List.getElem_of_mem (hpm.mem_iff.1 (List.getElem_mem hlt))
        obtain ⟨hte,_⟩ := he i hi (by omega)
        rw [hie] at hte
        have hpre : u.take j ++ [u[j]] <+: u := by
          rw [← List.take_succ_eq_append_getElem hlt];exact List.take_prefix _ _
        have hst := hstep w5 hE5 (u.take j) u[j] es[i].val w6 hpre hI hU hte.val hte.num
        have hsucc : u.take (j + 1) = u.take j ++ [u[j]] := List.take_succ_eq_append_getElem hlt
        have hnd0 : (u0.map (·.1)).Nodup := (hpm.map (·.1)).nodup_iff.1 (List.nodup_iff_pairwise_ne.2 (hs.imp fun h => Nat.ne_of_lt h))
        have hk3 : ∀ k (hk : k < es.size),k < i → es[k].key ≠ .int .u32 (u[j].1 : Nat) := by
          intro k hk hkj h
          rw [(he k (by omega) hk).1.key] at h
          simp only [Value.int.injEq,true_and] at h
          have := List.pairwise_iff_getElem.1 (List.nodup_iff_pairwise_ne.1 hnd0) k i (by simp;omega) (by simp;omega) hkj
          simp only [List.getElem_map,hie] at this
          omega
        have hk2 := hte.key
        generalize u[j] = y at *
        generalize hev : es[i].val = ev at *
        repeat ((first | refine qA rfl ?_|refine qB ?_|refine qC rfl ?_|refine qD ?_|refine qE ?_|refine qF ?_|refine qG ?_|refine qH ?_);try simp (maxSteps:=1000000)(disch:=(first|omega|(simp only [qI,qJ,qK]<;>omega)|exact qL _)) only [go_sem,↓reduceIte,n0,reduceCtorEq,n1,n2,n3,n4,n5,i0,i1,i2,i3,i4,i5,i6,i7,h39,h38,h37,hg6,hx,Int.toNat_natCast,Nat.mul_one,hb6,hm,h0',h1'])
        refine wp_lookup (i := i) (n := (y.1 : Int)) tagsT u32T (by simp (maxSteps:=1000000)(disch:=(first|omega|(simp only [qI,qJ,qK]<;>omega)|exact qL _)) only [go_sem,↓reduceIte,n0,reduceCtorEq,n1,n2,n3,n4,n5,i0,i1,i2,i3,i4,i5,i6,i7]) (by simp (maxSteps:=1000000)(disch:=(first|omega|(simp only [qI,qJ,qK]<;>omega)|exact qL _)) only [go_sem,↓reduceIte,n0,reduceCtorEq,n1,n2,n3,n4,n5,i0,i1,i2,i3,i4,i5,i6,i7]) hr6 hKU (by omega) hk2 hk3 ?_
        simp (maxSteps:=1000000)(disch:=(first|omega|(simp only [qI,qJ,qK]<;>omega)|exact qL _)) only [go_sem,↓reduceIte,n0,reduceCtorEq,n1,n2,n3,n4,n5,i0,i1,i2,i3,i4,i5,i6,i7,hev,hF,h1']
        refine hst.mono ?_
        rintro r7 w7 ⟨hI7,hU7⟩
        repeat ((first | refine qA rfl ?_|refine qB ?_|refine qC rfl ?_|refine qD ?_|refine qE ?_|refine qF ?_|refine qG ?_|refine qH ?_);try simp (maxSteps:=1000000)(disch:=(first|omega|(simp only [qI,qJ,qK]<;>omega)|exact qL _)) only [go_sem,↓reduceIte,n0,reduceCtorEq,n1,n2,n3,n4,n5,i0,i1,i2,i3,i4,i5,i6,i7,h39])
        refine ⟨⟨j + 1,by omega,?_,h38,h37,h0',h1',by rw [hsucc];exact hI7,hU7⟩,?_⟩
        · rfl
        · simp only [RowKit.intOf];omega
      · have hlt' : ¬ (j : Int) < (xs.length : Int) := by omega
        repeat ((first | refine qA rfl ?_|refine qB ?_|refine qC rfl ?_|refine qD ?_|refine qE ?_|refine qF ?_|refine qG ?_|refine qH ?_);try simp (maxSteps:=1000000)(disch:=(first|omega|(simp only [qI,qJ,qK]<;>omega)|exact qL _)) only [go_sem,↓reduceIte,n0,reduceCtorEq,n1,n2,n3,n4,n5,i0,i1,i2,i3,i4,i5,i6,i7,h39,h38])
        have e : u.take j = u := List.take_of_length_le (by omega)
        rw [e] at hI
        exact ⟨hI,hU⟩
    · rintro ρ w6 ⟨hI,hU⟩
      repeat ((first | refine qA rfl ?_|refine qB ?_|refine qC rfl ?_|refine qD ?_|refine qE ?_|refine qF ?_|refine qG ?_|refine qH ?_);try simp (maxSteps:=1000000)(disch:=(first|omega|(simp only [qI,qJ,qK]<;>omega)|exact qL _)) only [go_sem,↓reduceIte,n0,reduceCtorEq,n1,n2,n3,n4,n5,i0,i1,i2,i3,i4,i5,i6,i7])
      exact ⟨w5,hE5,hI,hU⟩
end Ms

namespace Ms
open Go.World renaming size_alloc → qI
open Ms renaming size_wr → qJ,size_drew → qK,not_noB → qL
open W renaming seqR → qA,seq → qB,regR → qC,condK → qD,block → qE,skip → qF,ret → qG,exit → qH
open Nat renaming reduceEqDiff → n0,reduceAdd → n1,reduceMul → n2,reduceSub → n3,reduceLT → n4,reduceLeDiff → n5
open Int renaming reduceEq → i0,reduceLT → i1,reduceLE → i2,reduceNeg → i3,reduceAdd → i4,reduceSub → i5,reduceMul → i6,reduceToNat → i7
set_option maxRecDepth 8000
set_option maxHeartbeats 2000000
open Go Go.Proofs Go.Shelf
attribute [local congr] W_congr WPsq_congr WPp_congr optK_congr addrK_congr intK_congr boolK_congr sliceK_congr tupleK_congr funcK_congr Fn_congr rawK_congr takeK_congr stepK_congr convK_congr aggK_congr

theorem got_step (t : Tree) (hl2 : t.l.length ≤ 32767) (hl3 : t.u.length ≤ 32767)
    (hrec : ∀ i (h : i < t.l.length),∀ (ok : Blocks) (ct : List Value) (w : World),TreeC ok w t.l[i] ct → Fn Tryd.prog 21 #[.agg ct.toArray] w fun r w' => TreeRg ok w w' r t.l[i] ∧ Ext w w')
    (ok : Blocks) (ct : List Value) (w : World) (ht : TreeC ok w t ct) :
    Fn Tryd.prog 21 #[.agg ct.toArray] w fun r w' => TreeRg ok w w' r t ∧ Ext w w' := by
  obtain ⟨vS,vL,vU,rfl,hn,hS,hL,hU⟩ := ht.inv
  obtain ⟨bS,cS,rfl,hcS⟩ := hS.shape
  obtain ⟨bl,cl,rfl,hcl⟩ := SlR.shape hL
  obtain ⟨bu,cu,rfl,hcu⟩ := SlR.shape hU
  have hE : Ext w (wr (((w.alloc (.cells #[.int .i64 t.n,.slice bS t.s.length cS,.bool t.null,.slice bl t.l.length cl,.slice bu t.u.length cu] 26)).alloc (.cells #[.int .i64 0,.slice none 0 0,.bool false,.slice none 0 0,.slice none 0 0] 37)).alloc (.cells #[.int .i64 0,.slice none 0 0,.bool false,.slice none 0 0,.slice none 0 0] 37)) (w.heap.size + 2) 0 [.int .i64 t.n,.slice bS t.s.length cS,.bool t.null,.slice none 0 0,.slice none 0 0]) := (((Upd.refl _ _).alloc _).alloc _).alloc _ |>.wr _ _ (.inl (by omega))
  refine fn_of_W Tryd.func21 rfl Tryd.results21 Tryd.ntmps21 rfl ?_
  repeat ((first | refine qA rfl ?_|refine qB ?_|refine qC rfl ?_|refine qD ?_|refine qE ?_|refine qF ?_|refine qG ?_|refine qH ?_);try simp (maxSteps:=1000000)(disch:=(first|omega|(simp only [qI,qJ,qK]<;>omega)|exact qL _)) only [go_sem,↓reduceIte,n0,reduceCtorEq,n1,n2,n3,n4,n5,i0,i1,i2,i3,i4,i5,i6,i7])
  have hb0 : blk (wr (((w.alloc (.cells #[.int .i64 t.n,.slice bS t.s.length cS,.bool t.null,.slice bl t.l.length cl,.slice bu t.u.length cu] 26)).alloc (.cells #[.int .i64 0,.slice none 0 0,.bool false,.slice none 0 0,.slice none 0 0] 37)).alloc (.cells #[.int .i64 0,.slice none 0 0,.bool false,.slice none 0 0,.slice none 0 0] 37)) (w.heap.size + 2) 0 [.int .i64 t.n,.slice bS t.s.length cS,.bool t.null,.slice none 0 0,.slice none 0 0]) w.heap.size = some (#[.int .i64 t.n,.slice bS t.s.length cS,.bool t.null,.slice bl t.l.length cl,.slice bu t.u.length cu],26,(0,0)) := by simp (maxSteps:=1000000)(disch:=(first|omega|(simp only [qI,qJ,qK]<;>omega)|exact qL _)) only [go_sem,↓reduceIte,n0,reduceCtorEq,n1,n2,n3,n4,n5,i0,i1,i2,i3,i4,i5,i6,i7]
  have hb1 : blk (wr (((w.alloc (.cells #[.int .i64 t.n,.slice bS t.s.length cS,.bool t.null,.slice bl t.l.length cl,.slice bu t.u.length cu] 26)).alloc (.cells #[.int .i64 0,.slice none 0 0,.bool false,.slice none 0 0,.slice none 0 0] 37)).alloc (.cells #[.int .i64 0,.slice none 0 0,.bool false,.slice none 0 0,.slice none 0 0] 37)) (w.heap.size + 2) 0 [.int .i64 t.n,.slice bS t.s.length cS,.bool t.null,.slice none 0 0,.slice none 0 0]) (w.heap.size + 1) = some (#[.int .i64 0,.slice none 0 0,.bool false,.slice none 0 0,.slice none 0 0],37,(0,0)) := by simp (maxSteps:=1000000)(disch:=(first|omega|(simp only [qI,qJ,qK]<;>omega)|exact qL _)) only [go_sem,↓reduceIte,n0,reduceCtorEq,n1,n2,n3,n4,n5,i0,i1,i2,i3,i4,i5,i6,i7]
  have hb2 : blk (wr (((w.alloc (.cells #[.int .i64 t.n,.slice bS t.s.length cS,.bool t.null,.slice bl t.l.length cl,.slice bu t.u.length cu] 26)).alloc (.cells #[.int .i64 0,.slice none 0 0,.bool false,.slice none 0 0,.slice none 0 0] 37)).alloc (.cells #[.int .i64 0,.slice none 0 0,.bool false,.slice none 0 0,.slice none 0 0] 37)) (w.heap.size + 2) 0 [.int .i64 t.n,.slice bS t.s.length cS,.bool t.null,.slice none 0 0,.slice none 0 0]) (w.heap.size + 2) = some (#[.int .i64 t.n,.slice bS t.s.length cS,.bool t.null,.slice none 0 0,.slice none 0 0],37,(0,0)) := by simp (maxSteps:=1000000)(disch:=(first|omega|(simp only [qI,qJ,qK]<;>omega)|exact qL _)) only [go_sem,↓reduceIte,n0,reduceCtorEq,n1,n2,n3,n4,n5,i0,i1,i2,i3,i4,i5,i6,i7]
  have hz2 : (wr (((w.alloc (.cells #[.int .i64 t.n,.slice bS t.s.length cS,.bool t.null,.slice bl t.l.length cl,.slice bu t.u.length cu] 26)).alloc (.cells #[.int .i64 0,.slice none 0 0,.bool false,.slice none 0 0,.slice none 0 0] 37)).alloc (.cells #[.int .i64 0,.slice none 0 0,.bool false,.slice none 0 0,.slice none 0 0] 37)) (w.heap.size + 2) 0 [.int .i64 t.n,.slice bS t.s.length cS,.bool t.null,.slice none 0 0,.slice none 0 0]).heap.size = w.heap.size + 3 := by simp only [size_wr,World.size_alloc]
  generalize (wr (((w.alloc (.cells #[.int .i64 t.n,.slice bS t.s.length cS,.bool t.null,.slice bl t.l.length cl,.slice bu t.u.length cu] 26)).alloc (.cells #[.int .i64 0,.slice none 0 0,.bool false,.slice none 0 0,.slice none 0 0] 37)).alloc (.cells #[.int .i64 0,.slice none 0 0,.bool false,.slice none 0 0,.slice none 0 0] 37)) (w.heap.size + 2) 0 [.int .i64 t.n,.slice bS t.s.length cS,.bool t.null,.slice none 0 0,.slice none 0 0]) = w2 at *
  refine W.exitJ 0 (fun ρ w' => ∃ v,ρ 1 = .pointer (some ⟨w.heap.size,0,none⟩) ∧ ρ 2 = .pointer (some ⟨w.heap.size + 1,0,none⟩) ∧ ρ 3 = .pointer (some ⟨w.heap.size + 2,0,none⟩) ∧
      blk w' (w.heap.size + 2) = some (#[.int .i64 t.n,.slice bS t.s.length cS,.bool t.null,v,.slice none 0 0],37,(0,0)) ∧ GrowT (fun b => okN ok w.heap.size b ∧ b ≠ w.heap.size + 1 ∧ b ≠ w.heap.size + 2) w2.heap.size (w.heap.size + 2) w' 37 v t.l ∧ Upd (fun b => b = w.heap.size + 2) w2 w')
    (W.loop (fun ρ w' => ∃ (j : Nat) (v : Value),j ≤ t.l.length ∧ ρ 18 = .int .i64 j ∧ ρ 17 = .int .i64 t.l.length ∧ ρ 16 = .slice bl t.l.length cl ∧ ρ 1 = .pointer (some ⟨w.heap.size,0,none⟩) ∧ ρ 2 = .pointer (some ⟨w.heap.size + 1,0,none⟩) ∧ ρ 3 = .pointer (some ⟨w.heap.size + 2,0,none⟩) ∧
      blk w' (w.heap.size + 2) = some (#[.int .i64 t.n,.slice bS t.s.length cS,.bool t.null,v,.slice none 0 0],37,(0,0)) ∧ GrowT (fun b => okN ok w.heap.size b ∧ b ≠ w.heap.size + 1 ∧ b ≠ w.heap.size + 2) w2.heap.size (w.heap.size + 2) w' 37 v (t.l.take j) ∧ Upd (fun b => b = w.heap.size + 2) w2 w')
    (fun ρ _ => t.l.length - (RowKit.intOf (ρ 18)).toNat) ?_ ?_) ?_
  · refine ⟨0,_,Nat.zero_le _,?_,?_,?_,?_,?_,?_,hb2,GrowT.nil _ _ _ _ _,Upd.refl _ _⟩ <;> simp (maxSteps:=1000000)(disch:=(first|omega|(simp only [qI,qJ,qK]<;>omega)|exact qL _)) only [go_sem,↓reduceIte,n0,reduceCtorEq,n1,n2,n3,n4,n5,i0,i1,i2,i3,i4,i5,i6,i7]
    all_goals rfl
  · rintro ρ w6 ⟨j,v,hj,h18,h17,h16,h1,h2,h3,hbt,hg,hU6⟩
    have hz6 := hU6.size
    have hE06 : Ext w w6 := hE.more hU6 fun b hb h => by omega
    by_cases hlt : j < t.l.length
    · obtain ⟨_,b,o,x,vS',vL',vU',hb,hokb,hx,hblt,hxs,hxe,g1,g2,g3,hc⟩ := TreesV.get hL hlt
      subst hb
      have hx6 : blk w6 b = some x := hE06.blk_some hx id
      have hcat : t.l.take (j + 1) = t.l.take j ++ [t.l[j]] := List.take_succ_eq_append_getElem hlt
      have hlen9 : (t.l.take j).length = j := by simp;omega
      have hnb : ∀ b,b < w2.heap.size ∨ b = w6.heap.size → ¬ ownB v b := fun b hb h => by
        have := hg.above h
        have := hg.below h
        omega
      have hE7 : Ext w6 (wr (w6.alloc (.cells #[.int .i64 0,.slice none 0 0,.bool false,.slice none 0 0,.slice none 0 0] 26)) w6.heap.size 0 [.int .i64 t.l[j].n,vS',.bool t.l[j].null,vL',vU']) := (Upd.alloc (Upd.refl _ _) _).wr _ _ (.inl (Nat.le_refl _))
      have hb7 : blk (wr (w6.alloc (.cells #[.int .i64 0,.slice none 0 0,.bool false,.slice none 0 0,.slice none 0 0] 26)) w6.heap.size 0 [.int .i64 t.l[j].n,vS',.bool t.l[j].null,vL',vU']) w6.heap.size = some (#[.int .i64 t.l[j].n,vS',.bool t.l[j].null,vL',vU'],26,(0,0)) := by simp (maxSteps:=1000000)(disch:=(first|omega|(simp only [qI,qJ,qK]<;>omega)|exact qL _)) only [go_sem,↓reduceIte,n0,reduceCtorEq,n1,n2,n3,n4,n5,i0,i1,i2,i3,i4,i5,i6,i7]
      have hz7 : (wr (w6.alloc (.cells #[.int .i64 0,.slice none 0 0,.bool false,.slice none 0 0,.slice none 0 0] 26)) w6.heap.size 0 [.int .i64 t.l[j].n,vS',.bool t.l[j].null,vL',vU']).heap.size = w6.heap.size + 1 := by simp only [size_wr,World.size_alloc]
      have hrecj := hrec j hlt (fun b => ok b ∧ b < w.heap.size) [.int .i64 t.l[j].n,vS',.bool t.l[j].null,vL',vU']
      repeat ((first | refine qA rfl ?_|refine qB ?_|refine qC rfl ?_|refine qD ?_|refine qE ?_|refine qF ?_|refine qG ?_|refine qH ?_);try simp (maxSteps:=1000000)(disch:=(first|omega|(simp only [qI,qJ,qK]<;>omega)|exact qL _)) only [go_sem,↓reduceIte,n0,reduceCtorEq,n1,n2,n3,n4,n5,i0,i1,i2,i3,i4,i5,i6,i7,h18,h17,h16,hx6,hxe,g1,g2,g3,cellsAt_five,Int.toNat_natCast])
      generalize (wr (w6.alloc (.cells #[.int .i64 0,.slice none 0 0,.bool false,.slice none 0 0,.slice none 0 0] 26)) w6.heap.size 0 [.int .i64 t.l[j].n,vS',.bool t.l[j].null,vL',vU']) = w7 at *
      have hbt7 := hE7.blk_some hbt id
      refine W.drawR (.take 0 (.take 1 (.take 2 (.only 3 (.only 4 (.only 5 (.take 6 (.last 7)))))))) (ownB v) mixed (by kernel_rfl) ?_
      simp (maxSteps:=1000000)(disch:=(first|omega|(simp only [qI,qJ,qK]<;>omega)|exact qL _ | (refine hnb _ ?_;first | omega | (simp only [World.size_alloc,size_wr,size_drew] <;> omega)))) only [go_sem,↓reduceIte,n0,reduceCtorEq,n1,n2,n3,n4,n5,i0,i1,i2,i3,i4,i5,i6,i7,h3,hbt7,hb7,cellsAt_five,cellsAt_eight]
      have hE7d : Ext w7 w7.drew := (Upd.refl _ _).drew
      have hE07d : Ext w w7.drew := (hE06.trans hE7).trans hE7d
      have hzd : w7.drew.heap.size = w7.heap.size := size_drew _
      refine (hrecj w7.drew ((hc.weaken fun b h1 h2 => ⟨h2,h1⟩).keep (hE07d.keeps _))).mono ?_
      rintro v8 w8 ⟨⟨c8,rfl,hc8⟩,hE8⟩
      generalize t.l[j] = T at *
      obtain ⟨vS8,vL8,vU8,rfl,hn8,hS8,hL8,hU8⟩ := hc8.inv
      have k1 := hS8.flat
      have k2 := SlR.flat hL8
      have k3 := SlR.flat hU8
      have hz8 := hE8.size
      simp only [size_drew] at hz8
      have hM8 : Upd (ownB v) w7.drew w8 := hE8.mono (fun _ h => h.elim)
      have hE68 : Ext w6 w8 := (hE7.trans hE7d).trans hE8
      have hE9 : Ext w8 (w8.alloc (.cells #[.int .i64 T.n,vS8,.bool T.null,vL8,vU8] 37)) := Upd.alloc (Upd.refl _ _) _
      have hM9 : Upd (ownB v) w7.drew (w8.alloc (.cells #[.int .i64 T.n,vS8,.bool T.null,vL8,vU8] 37)) := hM8.alloc _
      refine ⟨hM8,?_⟩
      simp (maxSteps:=1000000)(disch:=(first|omega|(simp only [qI,qJ,qK]<;>omega)|exact qL _)) only [go_sem,↓reduceIte,n0,reduceCtorEq,n1,n2,n3,n4,n5,i0,i1,i2,i3,i4,i5,i6,i7,k1,k2,k3]
      refine ⟨hM9,?_⟩
      have hg9 := (hg.ext hE68).ext hE9
      have hx9 : TreeC (fun b => (fun b => okN ok w.heap.size b ∧ b ≠ w.heap.size + 1 ∧ b ≠ w.heap.size + 2) b ∧ b ≠ w.heap.size + 2 ∧ ¬ ownB v b) (w8.alloc (.cells #[.int .i64 T.n,vS8,.bool T.null,vL8,vU8] 37)) T [.int .i64 T.n,vS8,.bool T.null,vL8,vU8] :=
        (hc8.keep (hE9.keeps _)).weaken fun b _ hk => by
          rcases hk with ⟨h1,h2⟩ | h2
          · exact ⟨⟨.inl h1,by omega,by omega⟩,by omega,fun h => by have := hg.above h;omega⟩
          · exact ⟨⟨.inr (by omega),by omega,by omega⟩,by omega,fun h => by have := hg.below h;omega⟩
      obtain ⟨css,hown,hall⟩ := hg9.ex
      have hcl9 := hall.1
      refine wp_append ap_34_34 (m := 1) (news := [.int .i64 T.n,vS8,.bool T.null,vL8,vU8]) (n := css.length) (cs := css.flatten) (v := v) ?_ rfl hown.1 (all2_flat_tree hall) (Src.blk (fr := (0,0)) (T := 37) (blk_alloc_new rfl) rfl (flat_tree hx9).1) ?_ ?_ ?_
      · simp (maxSteps:=1000000)(disch:=(first|omega|(simp only [qI,qJ,qK]<;>omega)|exact qL _)) only [go_sem,↓reduceIte,n0,reduceCtorEq,n1,n2,n3,n4,n5,i0,i1,i2,i3,i4,i5,i6,i7]
      · simp only [World.size_alloc];omega
      · omega
      intro v' w10 ho hu hfr
      have hg10 := GrowT.snoc hown hall hx9 hu hfr ho
      have hz10 := hu.size
      simp only [World.size_alloc] at hz10
      obtain ⟨va,vc,hv',_⟩ := ho.shape
      subst hv'
      have hbt10 := (hM9.trans hu).blk_some (hE7d.blk_some hbt7 id) (hnb _ (by omega))
      have htb : ¬ ownB (.slice va (css.length + 1) vc) (w.heap.size + 2) := fun h => by
        rcases hfr _ h with h | h
        · exact hnb _ (.inl (by omega)) h
        · simp only [World.size_alloc] at h;omega
      simp (maxSteps:=1000000)(disch:=(first|omega|(simp only [qI,qJ,qK]<;>omega)|exact qL _)) only [go_sem,↓reduceIte,n0,reduceCtorEq,n1,n2,n3,n4,n5,i0,i1,i2,i3,i4,i5,i6,i7]
      refine ⟨hM9.trans hu,?_⟩
      simp (maxSteps:=1000000)(disch:=(first|omega|(simp only [qI,qJ,qK]<;>omega)|exact qL _)) only [go_sem,↓reduceIte,n0,reduceCtorEq,n1,n2,n3,n4,n5,i0,i1,i2,i3,i4,i5,i6,i7,h3,hbt10]
      repeat ((first | refine qA rfl ?_|refine qB ?_|refine qC rfl ?_|refine qD ?_|refine qE ?_|refine qF ?_|refine qG ?_|refine qH ?_);try simp (maxSteps:=1000000)(disch:=(first|omega|(simp only [qI,qJ,qK]<;>omega)|exact qL _)) only [go_sem,↓reduceIte,n0,reduceCtorEq,n1,n2,n3,n4,n5,i0,i1,i2,i3,i4,i5,i6,i7,h18])
      refine ⟨⟨j + 1,.slice va (css.length + 1) vc,by omega,rfl,h17,h16,h1,h2,h3,?_,?_,?_⟩,?_⟩
      · simp (maxSteps:=1000000)(disch:=(first|omega|(simp only [qI,qJ,qK]<;>omega)|exact qL _)) only [go_sem,↓reduceIte,n0,reduceCtorEq,n1,n2,n3,n4,n5,i0,i1,i2,i3,i4,i5,i6,i7,hbt10]
      · rw [hcat];exact hg10.upd ((Upd.refl _ _).wr _ _ (.inr rfl)) htb
      · refine Upd.wr ?_ _ _ (.inr rfl)
        exact hU6.more (((hE68.trans hE9).mono fun _ h => h.elim).trans hu) fun b hb h => by have := hg.above h;omega
      · simp only [RowKit.intOf];omega
    · have hjl : j = t.l.length := by omega
      subst hjl
      rw [List.take_length] at hg
      repeat ((first | refine qA rfl ?_|refine qB ?_|refine qC rfl ?_|refine qD ?_|refine qE ?_|refine qF ?_|refine qG ?_|refine qH ?_);try simp (maxSteps:=1000000)(disch:=(first|omega|(simp only [qI,qJ,qK]<;>omega)|exact qL _)) only [go_sem,↓reduceIte,n0,reduceCtorEq,n1,n2,n3,n4,n5,i0,i1,i2,i3,i4,i5,i6,i7,h18,h17])
      exact ⟨v,h1,h2,h3,hbt,hg,hU6⟩
  · rintro ρ w5 ⟨vl,h1,h2,h3,hbt,hg,hU5⟩
    have hz5 := hU5.size
    have hE05 : Ext w w5 := hE.more hU5 fun b hb h => by omega
    have hb05 := hU5.blk_some hb0 (by omega)
    have hb15 := hU5.blk_some hb1 (by omega)
    obtain ⟨al,cl',hvl,hcl'⟩ := hg.shape
    subst hvl
    have hTL : TreesV (fun b => (fun b => okN ok w.heap.size b ∧ b ≠ w.heap.size + 1 ∧ b ≠ w.heap.size + 2) b ∧ b < w5.heap.size) w5 (.slice al t.l.length cl') t.l :=
      (hg.trees (ok' := (fun b => okN ok w.heap.size b ∧ b ≠ w.heap.size + 1 ∧ b ≠ w.heap.size + 2)) (fun _ _ h => h) (fun b hb => ⟨.inr (by omega),by omega,by omega⟩)).weaken fun b h1 h2 => ⟨h2,h1⟩
    simp (maxSteps:=1000000)(disch:=(first|omega|(simp only [qI,qJ,qK]<;>omega)|exact qL _)) only [go_sem,↓reduceIte,n0,reduceCtorEq,n1,n2,n3,n4,n5,i0,i1,i2,i3,i4,i5,i6,i7]
    repeat ((first | refine qA rfl ?_|refine qB ?_|refine qC rfl ?_|refine qD ?_|refine qE ?_|refine qF ?_|refine qG ?_|refine qH ?_);try simp (maxSteps:=1000000)(disch:=(first|omega|(simp only [qI,qJ,qK]<;>omega)|exact qL _)) only [go_sem,↓reduceIte,n0,reduceCtorEq,n1,n2,n3,n4,n5,i0,i1,i2,i3,i4,i5,i6,i7,h1,hb05])
    refine W.loop (fun ρ w' => ∃ (j : Nat) (v : Value),j ≤ t.u.length ∧ ρ 33 = .int .i64 j ∧ ρ 32 = .int .i64 t.u.length ∧ ρ 31 = .slice bu t.u.length cu ∧ ρ 2 = .pointer (some ⟨w.heap.size + 1,0,none⟩) ∧ ρ 3 = .pointer (some ⟨w.heap.size + 2,0,none⟩) ∧
        blk w' (w.heap.size + 2) = some (#[.int .i64 t.n,.slice bS t.s.length cS,.bool t.null,.slice al t.l.length cl',v],37,(0,0)) ∧ GrowU (fun b => okN ok w.heap.size b ∧ b ≠ w.heap.size + 1 ∧ b ≠ w.heap.size + 2) w5.heap.size (w.heap.size + 2) w' 64 v (t.u.take j) ∧ Upd (fun b => b = w.heap.size + 2) w5 w')
      (fun ρ _ => t.u.length - (RowKit.intOf (ρ 33)).toNat) ?_ ?_
    · refine ⟨0,_,Nat.zero_le _,?_,?_,?_,?_,?_,hbt,GrowU.nil _ _ _ _ _,Upd.refl _ _⟩ <;> simp (maxSteps:=1000000)(disch:=(first|omega|(simp only [qI,qJ,qK]<;>omega)|exact qL _)) only [go_sem,↓reduceIte,n0,reduceCtorEq,n1,n2,n3,n4,n5,i0,i1,i2,i3,i4,i5,i6,i7,h2,h3]
      all_goals rfl
    · clear h1 h2 h3 hg hbt
      rintro ρ w6 ⟨j,v,hj,h33,h32',h31,h2,h3,hbt,hg,hU6⟩
      have hz6 := hU6.size
      have hE06 : Ext w w6 := hE05.more hU6 fun b hb h => by omega
      by_cases hlt : j < t.u.length
      · obtain ⟨_,b,o,x,vv,hb,hokb,hx,hblt,hxs,hxe,_,_,hfv,hbv,h32⟩ := TagsV.get hU hlt
        subst hb
        have hx6 : blk w6 b = some x := hE06.blk_some hx id
        have hcat : t.u.take (j + 1) = t.u.take j ++ [(t.u[j].1,t.u[j].2)] := List.take_succ_eq_append_getElem hlt
        have hlen9 : (t.u.take j).length = j := by simp;omega
        have hnb : ∀ b,b < w5.heap.size ∨ b = w6.heap.size → ¬ ownB v b := fun b hb h => by
          have := hg.above h
          have := hg.below h
          omega
        generalize t.u[j].1 = K at *
        generalize t.u[j].2 = S at *
        obtain ⟨b8',c8',rfl,_⟩ := hbv.shape
        have hE8 : Ext w6 (wr (w6.alloc (.cells #[.int .u32 0,.slice none 0 0] 65)) w6.heap.size 0 [.int .u32 K,.slice b8' S.length c8']) := (Upd.alloc (Upd.refl _ _) _).wr _ _ (.inl (Nat.le_refl _))
        have hb8 : blk (wr (w6.alloc (.cells #[.int .u32 0,.slice none 0 0] 65)) w6.heap.size 0 [.int .u32 K,.slice b8' S.length c8']) w6.heap.size = some (#[.int .u32 K,.slice b8' S.length c8'],65,(0,0)) := by simp (maxSteps:=1000000)(disch:=(first|omega|(simp only [qI,qJ,qK]<;>omega)|exact qL _)) only [go_sem,↓reduceIte,n0,reduceCtorEq,n1,n2,n3,n4,n5,i0,i1,i2,i3,i4,i5,i6,i7]
        have hz8 : (wr (w6.alloc (.cells #[.int .u32 0,.slice none 0 0] 65)) w6.heap.size 0 [.int .u32 K,.slice b8' S.length c8']).heap.size = w6.heap.size + 1 := by simp only [size_wr,World.size_alloc]
        repeat ((first | refine qA rfl ?_|refine qB ?_|refine qC rfl ?_|refine qD ?_|refine qE ?_|refine qF ?_|refine qG ?_|refine qH ?_);try simp (maxSteps:=1000000)(disch:=(first|omega|(simp only [qI,qJ,qK]<;>omega)|exact qL _)) only [go_sem,↓reduceIte,n0,reduceCtorEq,n1,n2,n3,n4,n5,i0,i1,i2,i3,i4,i5,i6,i7,h33,h32',h31,h3,hx6,hxe,hbt,cellsAt_two,Int.toNat_natCast])
        generalize (wr (w6.alloc (.cells #[.int .u32 0,.slice none 0 0] 65)) w6.heap.size 0 [.int .u32 K,.slice b8' S.length c8']) = w8' at *
        have hbt8 := hE8.blk_some hbt id
        have hbv8 := (hbv.weaken (ok' := fun b => ok b ∧ b < w.heap.size) fun b h1 h2 => ⟨h2,h1⟩).keep (Ext.keeps (hE06.trans hE8) _)
        have hg8 := hg.ext hE8
        have hMd : Upd (ownB v) w8' (w8'.alloc (.cells #[.int .u32 K,.slice b8' S.length c8'] 64)) := (Upd.refl _ _).alloc _
        have hx9 : TagC (fun b => (fun b => okN ok w.heap.size b ∧ b ≠ w.heap.size + 1 ∧ b ≠ w.heap.size + 2) b ∧ b ≠ w.heap.size + 2 ∧ ¬ ownB v b) (w8'.alloc (.cells #[.int .u32 K,(.slice b8' S.length c8')] 64)) (K,S) [.int .u32 K,(.slice b8' S.length c8')] :=
          ⟨(.slice b8' S.length c8'),rfl,(hbv8.keep (Ext.keeps (Upd.alloc (Upd.refl _ _) _) _)).weaken fun b _ hk => ⟨⟨.inl hk.1,by omega,by omega⟩,by omega,fun h => by have := hg.above h;omega⟩,h32⟩
        have hg9 := hg8.ext (Upd.alloc (Upd.refl _ _) (.cells #[.int .u32 K,(.slice b8' S.length c8')] 64))
        obtain ⟨css9,hown9,hall9⟩ := hg9.ex
        have hcl9 := hall9.1
        refine wp_append ap_35_35 (m := 1) (news := [.int .u32 K,(.slice b8' S.length c8')]) (n := css9.length) (cs := css9.flatten) (v := v) ?_ rfl hown9.1 hall9.flat_cells (Src.blk (fr := (0,0)) (T := 64) (blk_alloc_new (by first | rfl | omega)) rfl (flat_tag hx9).1) ?_ ?_ ?_
        · simp (maxSteps:=1000000)(disch:=(first|omega|(simp only [qI,qJ,qK]<;>omega)|exact qL _)) only [go_sem,↓reduceIte,n0,reduceCtorEq,n1,n2,n3,n4,n5,i0,i1,i2,i3,i4,i5,i6,i7]
        · simp only [World.size_alloc];omega
        · omega
        intro v' w10 ho hu hfr
        have hg10 := GrowU.snoc hown9 hall9 hx9 hu hfr ho
        have hz10 := hu.size
        simp only [World.size_alloc] at hz10
        obtain ⟨va,vc,hv',_⟩ := ho.shape
        subst hv'
        have htb : ¬ ownB (.slice va (css9.length + 1) vc) (w.heap.size + 2) := fun h => by
          rcases hfr _ h with h | h
          · exact hnb _ (.inl (by omega)) h
          · simp only [World.size_alloc] at h;omega
        have hbt10 := (hMd.trans hu).blk_some hbt8 (hnb _ (by omega))
        simp (maxSteps:=1000000)(disch:=(first|omega|(simp only [qI,qJ,qK]<;>omega)|exact qL _)) only [go_sem,↓reduceIte,n0,reduceCtorEq,n1,n2,n3,n4,n5,i0,i1,i2,i3,i4,i5,i6,i7,h3,hbt10]
        repeat ((first | refine qA rfl ?_|refine qB ?_|refine qC rfl ?_|refine qD ?_|refine qE ?_|refine qF ?_|refine qG ?_|refine qH ?_);try simp (maxSteps:=1000000)(disch:=(first|omega|(simp only [qI,qJ,qK]<;>omega)|exact qL _)) only [go_sem,↓reduceIte,n0,reduceCtorEq,n1,n2,n3,n4,n5,i0,i1,i2,i3,i4,i5,i6,i7,h33])
        refine ⟨⟨j + 1,.slice va (css9.length + 1) vc,by omega,rfl,h32',h31,h2,h3,?_,?_,?_⟩,?_⟩
        · simp (maxSteps:=1000000)(disch:=(first|omega|(simp only [qI,qJ,qK]<;>omega)|exact qL _)) only [go_sem,↓reduceIte,n0,reduceCtorEq,n1,n2,n3,n4,n5,i0,i1,i2,i3,i4,i5,i6,i7,hbt10]
        · rw [hcat];exact hg10.upd ((Upd.refl _ _).wr _ _ (.inr rfl)) htb
        · refine Upd.wr ?_ _ _ (.inr rfl)
          exact hU6.more (((hE8.mono fun _ h => h.elim).trans hMd).trans hu) fun b hb h => by have := hg.above h;omega
        · simp only [RowKit.intOf];omega
      · have hjl : j = t.u.length := by omega
        subst hjl
        rw [List.take_length] at hg
        obtain ⟨va,vc,hv',_⟩ := hg.shape
        subst hv'
        have hb16 := hU6.blk_some hb15 (by omega)
        repeat ((first | refine qA rfl ?_|refine qB ?_|refine qC rfl ?_|refine qD ?_|refine qE ?_|refine qF ?_|refine qG ?_|refine qH ?_);try simp (maxSteps:=1000000)(disch:=(first|omega|(simp only [qI,qJ,qK]<;>omega)|exact qL _)) only [go_sem,↓reduceIte,n0,reduceCtorEq,n1,n2,n3,n4,n5,i0,i1,i2,i3,i4,i5,i6,i7,h33,h32',h2,h3,hbt,hb16,cellsAt_five])
        refine ⟨⟨_,rfl,?_⟩,hE06.wr _ _ (.inl (by omega))⟩
        have hTL6 := hTL.keep (hU6.keeps fun b _ hk e => by omega)
        have hTU6 := hg.tags (ok' := (fun b => okN ok w.heap.size b ∧ b ≠ w.heap.size + 1 ∧ b ≠ w.heap.size + 2)) (fun _ _ h => h) (fun b hb => ⟨.inr (by omega),by omega,by omega⟩)
        have hS6 := (hS.weaken (ok' := fun b => ok b ∧ b < w.heap.size) fun b h1 h2 => ⟨h2,h1⟩).keep (Ext.keeps hE06 _)
        have hU9 : Upd (fun b => b = w.heap.size + 1) w6 (wr w6 (w.heap.size + 1) 0 [.int .i64 t.n,.slice bS t.s.length cS,.bool t.null,.slice al t.l.length cl',.slice va t.u.length vc]) := (Upd.refl _ _).wr _ _ (.inr rfl)
        have ht : t = .mk t.n t.s t.null t.l t.u := by cases t;rfl
        rw [ht]
        exact TreeC.intro hn ((hS6.keep (hU9.keeps fun b _ hk e => by omega)).weaken fun b _ hk => .inl hk.1) ((hTL6.keep (hU9.keeps fun b _ hk e => hk.1.2.1 e)).weaken fun b _ hk => hk.1.1) ((hTU6.keep (hU9.keeps fun b _ hk e => hk.2.1 e)).weaken fun b _ hk => hk.1)

theorem got_fn {t : Tree} (h : Lists t) : ∀ (ok : Blocks) (ct : List Value) (w : World),TreeC ok w t ct → Fn Tryd.prog 21 #[.agg ct.toArray] w fun r w' => TreeRg ok w w' r t ∧ Ext w w' := by
  induction h with
  | mk hl hu he ih => exact got_step _ hl hu ih
end Ms

namespace Ms
open Go.World renaming size_alloc → qI
open Ms renaming size_wr → qJ,size_drew → qK,not_noB → qL
open W renaming seqR → qA,seq → qB,regR → qC,condK → qD,block → qE,skip → qF,ret → qG,exit → qH
open Nat renaming reduceEqDiff → n0,reduceAdd → n1,reduceMul → n2,reduceSub → n3,reduceLT → n4,reduceLeDiff → n5
open Int renaming reduceEq → i0,reduceLT → i1,reduceLE → i2,reduceNeg → i3,reduceAdd → i4,reduceSub → i5,reduceMul → i6,reduceToNat → i7
set_option maxRecDepth 8000
open Go Go.Proofs Go.Shelf
attribute [local congr] W_congr WPsq_congr WPp_congr optK_congr addrK_congr intK_congr boolK_congr sliceK_congr tupleK_congr funcK_congr Fn_congr rawK_congr takeK_congr stepK_congr convK_congr aggK_congr

def Plan.pre : Nat → Plan → Plan → Plan
  | k + 1,.take i r,d => .take i (Plan.pre k r d)
  | k + 1,.only i r,d => .only i (Plan.pre k r d)
  | _,_,d => d
def Plan.drop : Nat → Plan → Plan
  | k + 1,.take _ r => Plan.drop k r
  | k + 1,.only _ r => Plan.drop k r
  | _,p => p
theorem Plan.pre_drop : ∀ (k : Nat) (p : Plan),Plan.pre k p (Plan.drop k p) = p
  | 0,p => by cases p <;> rfl
  | k + 1,.take i r => congrArg (Plan.take i) (Plan.pre_drop k r)
  | k + 1,.only i r => congrArg (Plan.only i) (Plan.pre_drop k r)
  | k + 1,.done => rfl
  | k + 1,.last _ => rfl
  | k + 1,.two .. => rfl
theorem W.drawO {P : Program} {n id : Nat} {ops : Array Oper} {Q : Exit → Regs → World → Prop} {ρ : Regs} {w : World} (p : Plan) (k : Nat) (M : Nat → Prop) (hm : P.follows .mixedOrders = true)
    (hc : (Region.noSelect ops && fitsL n ops.toList && (p.ok ops (Array.replicate ops.size false) && Nat.ble p.len ops.size)) = true)
    (h : ∀ DD,DD = Plan.drop k p → WPp P ops M w.drew (Plan.pre k p DD) (Q .normal) ρ w.drew) : W P n (.region id ops true) Q ρ w := by
  have := h _ rfl
  rw [Plan.pre_drop] at this
  exact W.drawR p M hm hc this

set_option maxHeartbeats 2000000 in
theorem SameTree_step (t : Tree) (hs : t.s.length ≤ 32767) (hl : t.l.length ≤ 32767) (hu : t.u.length ≤ 32767) (hd : ∀ x ∈ t.u,x.2.length ≤ 32767)
    (hrec : ∀ i (h : i < t.l.length),∀ (ok : Blocks) (ca cb : List Value) (w : World),TreeC ok w t.l[i] ca → TreeC ok w t.l[i] cb → Fn Tryd.prog 20 #[.agg ca.toArray,.agg cb.toArray] w fun r w' => r = .bool true ∧ Ext w w')
    (ok : Blocks) (ca cb : List Value) (w : World) (ha : TreeC ok w t ca) (hb : TreeC ok w t cb) : Fn Tryd.prog 20 #[.agg ca.toArray,.agg cb.toArray] w fun r w' => r = .bool true ∧ Ext w w' := by
  obtain ⟨aS,aL,aU,rfl,hn,hSa,hLa,hUa⟩ := ha.inv
  obtain ⟨bS,bL,bU,rfl,_,hSb,hLb,hUb⟩ := hb.inv
  obtain ⟨xa,ya,rfl,_⟩ := hSa.shape
  obtain ⟨xb,yb,rfl,_⟩ := hSb.shape
  obtain ⟨pa,qa,rfl,_⟩ := SlR.shape hLa
  obtain ⟨pb,qb,rfl,_⟩ := SlR.shape hLb
  obtain ⟨ua,va,rfl,_⟩ := SlR.shape hUa
  obtain ⟨ub,vb,rfl,_⟩ := SlR.shape hUb
  have hE1 : Ext w ((w.alloc (.cells #[.int .i64 t.n,.slice xa t.s.length ya,.bool t.null,.slice pa t.l.length qa,.slice ua t.u.length va] 37)).alloc (.cells #[.int .i64 t.n,.slice xb t.s.length yb,.bool t.null,.slice pb t.l.length qb,.slice ub t.u.length vb] 37)) := Upd.alloc (Upd.alloc (Upd.refl _ _) _) _
  have ha1 : blk ((w.alloc (.cells #[.int .i64 t.n,.slice xa t.s.length ya,.bool t.null,.slice pa t.l.length qa,.slice ua t.u.length va] 37)).alloc (.cells #[.int .i64 t.n,.slice xb t.s.length yb,.bool t.null,.slice pb t.l.length qb,.slice ub t.u.length vb] 37)) w.heap.size = some (#[.int .i64 t.n,.slice xa t.s.length ya,.bool t.null,.slice pa t.l.length qa,.slice ua t.u.length va],37,(0,0)) := by simp (maxSteps:=1000000)(disch:=(first|omega|(simp only [qI,qJ,qK]<;>omega)|exact qL _)) only [go_sem,↓reduceIte,n0,reduceCtorEq,n1,n2,n3,n4,n5,i0,i1,i2,i3,i4,i5,i6,i7]
  have hb1 : blk ((w.alloc (.cells #[.int .i64 t.n,.slice xa t.s.length ya,.bool t.null,.slice pa t.l.length qa,.slice ua t.u.length va] 37)).alloc (.cells #[.int .i64 t.n,.slice xb t.s.length yb,.bool t.null,.slice pb t.l.length qb,.slice ub t.u.length vb] 37)) (w.heap.size + 1) = some (#[.int .i64 t.n,.slice xb t.s.length yb,.bool t.null,.slice pb t.l.length qb,.slice ub t.u.length vb],37,(0,0)) := by simp (maxSteps:=1000000)(disch:=(first|omega|(simp only [qI,qJ,qK]<;>omega)|exact qL _)) only [go_sem,↓reduceIte,n0,reduceCtorEq,n1,n2,n3,n4,n5,i0,i1,i2,i3,i4,i5,i6,i7]
  have hsame : decide (t.s = t.s) = true := decide_eq_true rfl
  refine fn_of_W Tryd.func20 rfl Tryd.results20 Tryd.ntmps20 rfl ?_
  refine W.seqR rfl ?_
  simp (maxSteps:=1000000)(disch:=(first|omega|(simp only [qI,qJ,qK]<;>omega)|exact qL _)) only [go_sem,↓reduceIte,n0,reduceCtorEq,n1,n2,n3,n4,n5,i0,i1,i2,i3,i4,i5,i6,i7]
  generalize ((w.alloc (.cells #[.int .i64 t.n,.slice xa t.s.length ya,.bool t.null,.slice pa t.l.length qa,.slice ua t.u.length va] 37)).alloc (.cells #[.int .i64 t.n,.slice xb t.s.length yb,.bool t.null,.slice pb t.l.length qb,.slice ub t.u.length vb] 37)) = w1 at *
  refine W.seq ?_
  refine W.seqO 18 rfl fun O DD hO hDD => ?_
  have hg5 : (O[5]?).bind (·.dst) = some 12 := by rw [hO];rfl
  have hg12 : (O[12]?).bind (·.dst) = some 19 := by rw [hO];rfl
  have hg20 : (O[20]?).bind (·.dst) = some 27 := by rw [hO];rfl
  have hg29 : (O[29]?).bind (·.dst) = some 36 := by rw [hO];rfl
  clear hO
  simp only [List.take_succ_cons,List.take_zero,List.cons_append,List.nil_append]
  simp (maxSteps:=1000000)(disch:=(first|omega|(simp only [qI,qJ,qK]<;>omega)|exact qL _)) only [go_sem,↓reduceIte,n0,reduceCtorEq,n1,n2,n3,n4,n5,i0,i1,i2,i3,i4,i5,i6,i7,ha1,hb1,hg5,hg12,hg20,hg29,beq_self_eq_true,bne_self_eq_false,ne_eq,not_true_eq_false,not_false_eq_true]
  refine (Same_fn (ok := ok) t.s t.s _ _ w1 (hSa.keep (hE1.keeps _)) (hSb.keep (hE1.keeps _)) (by omega)).mono ?_
  rintro _ w2 ⟨rfl,hE2⟩
  have ha2 := hE2.blk_some ha1 id
  have hb2 := hE2.blk_some hb1 id
  have hE02 := hE1.trans hE2
  rw [hDD]
  clear hDD
  simp only [List.drop_succ_cons,List.drop_zero]
  simp (maxSteps:=1000000)(disch:=(first|omega|(simp only [qI,qJ,qK]<;>omega)|exact qL _)) only [go_sem,↓reduceIte,n0,reduceCtorEq,n1,n2,n3,n4,n5,i0,i1,i2,i3,i4,i5,i6,i7,ha2,hb2,hsame,hg5,hg12,hg20,hg29,beq_self_eq_true,bne_self_eq_false,ne_eq,not_true_eq_false,not_false_eq_true]
  repeat ((first | refine qA rfl ?_|refine qB ?_|refine qC rfl ?_|refine qD ?_|refine qE ?_|refine qF ?_|refine qG ?_|refine qH ?_);try simp (maxSteps:=1000000)(disch:=(first|omega|(simp only [qI,qJ,qK]<;>omega)|exact qL _)) only [go_sem,↓reduceIte,n0,reduceCtorEq,n1,n2,n3,n4,n5,i0,i1,i2,i3,i4,i5,i6,i7,ha2,hb2,hsame])
  refine W.exitJ 0 (EndQ [(2,.pointer (some ⟨w.heap.size,0,none⟩)),(3,.pointer (some ⟨w.heap.size + 1,0,none⟩))] (fun w' => Ext w w' ∧ blk w' w.heap.size = some (#[.int .i64 t.n,.slice xa t.s.length ya,.bool t.null,.slice pa t.l.length qa,.slice ua t.u.length va],37,(0,0)) ∧ blk w' (w.heap.size + 1) = some (#[.int .i64 t.n,.slice xb t.s.length yb,.bool t.null,.slice pb t.l.length qb,.slice ub t.u.length vb],37,(0,0))))
    (W.loop (LoopL [(2,.pointer (some ⟨w.heap.size,0,none⟩)),(3,.pointer (some ⟨w.heap.size + 1,0,none⟩)),(47,.int .i64 t.l.length)] 48 (fun j w' => j ≤ t.l.length ∧ Ext w w' ∧ blk w' w.heap.size = some (#[.int .i64 t.n,.slice xa t.s.length ya,.bool t.null,.slice pa t.l.length qa,.slice ua t.u.length va],37,(0,0)) ∧ blk w' (w.heap.size + 1) = some (#[.int .i64 t.n,.slice xb t.s.length yb,.bool t.null,.slice pb t.l.length qb,.slice ub t.u.length vb],37,(0,0)))) (fun ρ _ => t.l.length - (RowKit.intOf (ρ 48)).toNat) ?_ ?_) ?_
  · exact ⟨(by simp (maxSteps:=1000000)(disch:=(first|omega|(simp only [qI,qJ,qK]<;>omega)|exact qL _)) only [go_sem,↓reduceIte,n0,reduceCtorEq,n1,n2,n3,n4,n5,i0,i1,i2,i3,i4,i5,i6,i7,Holds_nil,Holds_cons]),0,(by simp (maxSteps:=1000000)(disch:=(first|omega|(simp only [qI,qJ,qK]<;>omega)|exact qL _)) only [go_sem,↓reduceIte,n0,reduceCtorEq,n1,n2,n3,n4,n5,i0,i1,i2,i3,i4,i5,i6,i7];all_goals rfl),Nat.zero_le _,hE02,ha2,hb2⟩
  · rintro ρ w3 ⟨⟨h2,h3,hln,-⟩,j,hri,hj,hE3,ha3,hb3⟩
    by_cases hlt : j < t.l.length
    · obtain ⟨_,b1,o1,x1,vS1,vL1,vU1,e1,k1,hx1,hlt1,hxs1,hxe1,q11,q12,q13,hc1⟩ := TreesV.get (TreesV.keep hLa (hE3.keeps _)) hlt
      obtain ⟨_,b2,o2,x2,vS2,vL2,vU2,e2,k2,hx2,hlt2,hxs2,hxe2,q21,q22,q23,hc2⟩ := TreesV.get (TreesV.keep hLb (hE3.keeps _)) hlt
      subst e1
      subst e2
      repeat ((first | refine qA rfl ?_|refine qB ?_|refine qC rfl ?_|refine qD ?_|refine qE ?_|refine qF ?_|refine qG ?_|refine qH ?_);try simp (maxSteps:=1000000)(disch:=(first|omega|(simp only [qI,qJ,qK]<;>omega)|exact qL _)) only [go_sem,↓reduceIte,n0,reduceCtorEq,n1,n2,n3,n4,n5,i0,i1,i2,i3,i4,i5,i6,i7,h2,h3,hln,hri])
      have l1 := blk_lt ha3
      have l2 := blk_lt hb3
      refine W.drawR (.take 0 (.take 1 (.take 2 (.take 3 (.take 4 (.take 5 (.take 6 (.take 7 (.take 8 (.take 9 (.only 10 (.take 11 .done)))))))))))) NoB mixed (by kernel_rfl) ?_
      simp (maxSteps:=1000000)(disch:=(first|omega|(simp only [qI,qJ,qK]<;>omega)|exact qL _)) only [go_sem,↓reduceIte,n0,reduceCtorEq,n1,n2,n3,n4,n5,i0,i1,i2,i3,i4,i5,i6,i7,h2,h3,hln,hri,ha3,hb3,hx1,hxs1,hxe1,q11,q12,q13,hx2,hxs2,hxe2,q21,q22,q23,cellsAt_five,Int.toNat_natCast]
      refine (hrec j hlt ok _ _ w3.drew (hc1.keep (Ext.keeps ((Upd.refl _ _).drew) _)) (hc2.keep (Ext.keeps ((Upd.refl _ _).drew) _))).mono ?_
      rintro _ w4 ⟨rfl,hE4⟩
      refine ⟨hE4,?_⟩
      have hE34 : Ext w3 w4 := ((Upd.refl _ _).drew).trans hE4
      simp (maxSteps:=1000000)(disch:=(first|omega|(simp only [qI,qJ,qK]<;>omega)|exact qL _)) only [go_sem,↓reduceIte,n0,reduceCtorEq,n1,n2,n3,n4,n5,i0,i1,i2,i3,i4,i5,i6,i7,h2,h3,hln,hri]
      repeat ((first | refine qA rfl ?_|refine qB ?_|refine qC rfl ?_|refine qD ?_|refine qE ?_|refine qF ?_|refine qG ?_|refine qH ?_);try simp (maxSteps:=1000000)(disch:=(first|omega|(simp only [qI,qJ,qK]<;>omega)|exact qL _)) only [go_sem,↓reduceIte,n0,reduceCtorEq,n1,n2,n3,n4,n5,i0,i1,i2,i3,i4,i5,i6,i7,h2,h3,hln,hri])
      refine ⟨⟨(by simp (maxSteps:=1000000)(disch:=(first|omega|(simp only [qI,qJ,qK]<;>omega)|exact qL _)) only [go_sem,↓reduceIte,n0,reduceCtorEq,n1,n2,n3,n4,n5,i0,i1,i2,i3,i4,i5,i6,i7,Holds_nil,Holds_cons,h2,h3,hln,hri]),j + 1,(by simp (maxSteps:=1000000)(disch:=(first|omega|(simp only [qI,qJ,qK]<;>omega)|exact qL _)) only [go_sem,↓reduceIte,n0,reduceCtorEq,n1,n2,n3,n4,n5,i0,i1,i2,i3,i4,i5,i6,i7,hri];all_goals rfl),by omega,hE3.trans hE34,hE34.blk_some ha3 id,hE34.blk_some hb3 id⟩,?_⟩
      try simp (maxSteps:=1000000)(disch:=(first|omega|(simp only [qI,qJ,qK]<;>omega)|exact qL _)) only [go_sem,↓reduceIte,n0,reduceCtorEq,n1,n2,n3,n4,n5,i0,i1,i2,i3,i4,i5,i6,i7,hri]
      simp only [RowKit.intOf]
      omega
    · repeat ((first | refine qA rfl ?_|refine qB ?_|refine qC rfl ?_|refine qD ?_|refine qE ?_|refine qF ?_|refine qG ?_|refine qH ?_);try simp (maxSteps:=1000000)(disch:=(first|omega|(simp only [qI,qJ,qK]<;>omega)|exact qL _)) only [go_sem,↓reduceIte,n0,reduceCtorEq,n1,n2,n3,n4,n5,i0,i1,i2,i3,i4,i5,i6,i7,h2,h3,hln,hri])
      exact ⟨(by simp (maxSteps:=1000000)(disch:=(first|omega|(simp only [qI,qJ,qK]<;>omega)|exact qL _)) only [go_sem,↓reduceIte,n0,reduceCtorEq,n1,n2,n3,n4,n5,i0,i1,i2,i3,i4,i5,i6,i7,Holds_nil,Holds_cons,h2,h3,hln,hri]),hE3,ha3,hb3⟩
  rintro ρ w5 ⟨⟨h2,h3,-⟩,hE5,ha5,hb5⟩
  repeat ((first | refine qA rfl ?_|refine qB ?_|refine qC rfl ?_|refine qD ?_|refine qE ?_|refine qF ?_|refine qG ?_|refine qH ?_);try simp (maxSteps:=1000000)(disch:=(first|omega|(simp only [qI,qJ,qK]<;>omega)|exact qL _)) only [go_sem,↓reduceIte,n0,reduceCtorEq,n1,n2,n3,n4,n5,i0,i1,i2,i3,i4,i5,i6,i7,h2,h3,ha5,hb5])
  refine W.exitJ 2 (EndQ [(2,.pointer (some ⟨w.heap.size,0,none⟩)),(3,.pointer (some ⟨w.heap.size + 1,0,none⟩))] (fun w' => Ext w w' ∧ blk w' w.heap.size = some (#[.int .i64 t.n,.slice xa t.s.length ya,.bool t.null,.slice pa t.l.length qa,.slice ua t.u.length va],37,(0,0)) ∧ blk w' (w.heap.size + 1) = some (#[.int .i64 t.n,.slice xb t.s.length yb,.bool t.null,.slice pb t.l.length qb,.slice ub t.u.length vb],37,(0,0))))
    (W.loop (LoopL [(2,.pointer (some ⟨w.heap.size,0,none⟩)),(3,.pointer (some ⟨w.heap.size + 1,0,none⟩)),(66,.int .i64 t.u.length)] 67 (fun j w' => j ≤ t.u.length ∧ Ext w w' ∧ blk w' w.heap.size = some (#[.int .i64 t.n,.slice xa t.s.length ya,.bool t.null,.slice pa t.l.length qa,.slice ua t.u.length va],37,(0,0)) ∧ blk w' (w.heap.size + 1) = some (#[.int .i64 t.n,.slice xb t.s.length yb,.bool t.null,.slice pb t.l.length qb,.slice ub t.u.length vb],37,(0,0)))) (fun ρ _ => t.u.length - (RowKit.intOf (ρ 67)).toNat) ?_ ?_) ?_
  · exact ⟨(by simp (maxSteps:=1000000)(disch:=(first|omega|(simp only [qI,qJ,qK]<;>omega)|exact qL _)) only [go_sem,↓reduceIte,n0,reduceCtorEq,n1,n2,n3,n4,n5,i0,i1,i2,i3,i4,i5,i6,i7,Holds_nil,Holds_cons,h2,h3]),0,(by simp (maxSteps:=1000000)(disch:=(first|omega|(simp only [qI,qJ,qK]<;>omega)|exact qL _)) only [go_sem,↓reduceIte,n0,reduceCtorEq,n1,n2,n3,n4,n5,i0,i1,i2,i3,i4,i5,i6,i7,h2,h3];all_goals rfl),Nat.zero_le _,hE5,ha5,hb5⟩
  · rintro ρ w3 ⟨⟨h2,h3,hln,-⟩,j,hri,hj,hE3,ha3,hb3⟩
    by_cases hlt : j < t.u.length
    · obtain ⟨_,b1,o1,x1,v1,e1,k1,hx1,hlt1,hxs1,hxe1,q11,q12,q13,hv1,g1⟩ := TagsV.get (TagsV.keep hUa (hE3.keeps _)) hlt
      obtain ⟨_,b2,o2,x2,v2,e2,k2,hx2,hlt2,hxs2,hxe2,q21,q22,q23,hv2,g2⟩ := TagsV.get (TagsV.keep hUb (hE3.keeps _)) hlt
      subst e1
      subst e2
      have hdy := hd _ (List.getElem_mem hlt)
      generalize t.u[j] = y at *
      have hsy : decide (y.2 = y.2) = true := decide_eq_true rfl
      repeat ((first | refine qA rfl ?_|refine qB ?_|refine qC rfl ?_|refine qD ?_|refine qE ?_|refine qF ?_|refine qG ?_|refine qH ?_);try simp (maxSteps:=1000000)(disch:=(first|omega|(simp only [qI,qJ,qK]<;>omega)|exact qL _)) only [go_sem,↓reduceIte,n0,reduceCtorEq,n1,n2,n3,n4,n5,i0,i1,i2,i3,i4,i5,i6,i7,h2,h3,hln,hri])
      have l1 := blk_lt ha3
      have l2 := blk_lt hb3
      refine W.drawO (.take 0 (.take 1 (.take 2 (.take 3 (.take 4 (.take 5 (.take 6 (.take 7 (.take 8 (.take 9 (.take 10 (.take 11 (.take 12 (.take 13 (.take 14 (.take 15 (.take 16 (.take 17 (.take 18 (.take 19 (.take 20 (.take 21 (.take 22 (.take 23 (.take 24 (.take 25 (.only 26 (.take 27 (.take 28 .done))))))))))))))))))))))))))))) 14 NoB mixed (by kernel_rfl) fun DD hDD => ?_
      simp only [Plan.pre]
      simp (maxSteps:=1000000)(disch:=(first|omega|(simp only [qI,qJ,qK]<;>omega)|exact qL _)) only [go_sem,↓reduceIte,n0,reduceCtorEq,n1,n2,n3,n4,n5,i0,i1,i2,i3,i4,i5,i6,i7,h2,h3,hln,hri,ha3,hb3,hx1,hxs1,q11,q12,hx2,hxs2,q21,q22,Int.toNat_natCast,beq_self_eq_true,bne_self_eq_false,ne_eq,not_true_eq_false,not_false_eq_true]
      rw [hDD]
      simp only [Plan.drop]
      simp (maxSteps:=1000000)(disch:=(first|omega|(simp only [qI,qJ,qK]<;>omega)|exact qL _)) only [go_sem,↓reduceIte,n0,reduceCtorEq,n1,n2,n3,n4,n5,i0,i1,i2,i3,i4,i5,i6,i7,h2,h3,hln,hri,ha3,hb3,hx1,hxs1,q11,q12,hx2,hxs2,q21,q22,Int.toNat_natCast,beq_self_eq_true,bne_self_eq_false,ne_eq,not_true_eq_false,not_false_eq_true]
      refine (Same_fn (ok := ok) y.2 y.2 _ _ w3.drew (hv1.keep (Ext.keeps ((Upd.refl _ _).drew) _)) (hv2.keep (Ext.keeps ((Upd.refl _ _).drew) _)) (by omega)).mono ?_
      rintro _ w4 ⟨rfl,hE4⟩
      refine ⟨hE4,?_⟩
      have hE34 : Ext w3 w4 := ((Upd.refl _ _).drew).trans hE4
      simp (maxSteps:=1000000)(disch:=(first|omega|(simp only [qI,qJ,qK]<;>omega)|exact qL _)) only [go_sem,↓reduceIte,n0,reduceCtorEq,n1,n2,n3,n4,n5,i0,i1,i2,i3,i4,i5,i6,i7,h2,h3,hln,hri,hsy]
      repeat ((first | refine qA rfl ?_|refine qB ?_|refine qC rfl ?_|refine qD ?_|refine qE ?_|refine qF ?_|refine qG ?_|refine qH ?_);try simp (maxSteps:=1000000)(disch:=(first|omega|(simp only [qI,qJ,qK]<;>omega)|exact qL _)) only [go_sem,↓reduceIte,n0,reduceCtorEq,n1,n2,n3,n4,n5,i0,i1,i2,i3,i4,i5,i6,i7,h2,h3,hln,hri,hsy])
      refine ⟨⟨(by simp (maxSteps:=1000000)(disch:=(first|omega|(simp only [qI,qJ,qK]<;>omega)|exact qL _)) only [go_sem,↓reduceIte,n0,reduceCtorEq,n1,n2,n3,n4,n5,i0,i1,i2,i3,i4,i5,i6,i7,Holds_nil,Holds_cons,h2,h3,hln,hri]),j + 1,(by simp (maxSteps:=1000000)(disch:=(first|omega|(simp only [qI,qJ,qK]<;>omega)|exact qL _)) only [go_sem,↓reduceIte,n0,reduceCtorEq,n1,n2,n3,n4,n5,i0,i1,i2,i3,i4,i5,i6,i7,hri];all_goals rfl),by omega,hE3.trans hE34,hE34.blk_some ha3 id,hE34.blk_some hb3 id⟩,?_⟩
      try simp (maxSteps:=1000000)(disch:=(first|omega|(simp only [qI,qJ,qK]<;>omega)|exact qL _)) only [go_sem,↓reduceIte,n0,reduceCtorEq,n1,n2,n3,n4,n5,i0,i1,i2,i3,i4,i5,i6,i7,hri]
      simp only [RowKit.intOf]
      omega
    · repeat ((first | refine qA rfl ?_|refine qB ?_|refine qC rfl ?_|refine qD ?_|refine qE ?_|refine qF ?_|refine qG ?_|refine qH ?_);try simp (maxSteps:=1000000)(disch:=(first|omega|(simp only [qI,qJ,qK]<;>omega)|exact qL _)) only [go_sem,↓reduceIte,n0,reduceCtorEq,n1,n2,n3,n4,n5,i0,i1,i2,i3,i4,i5,i6,i7,h2,h3,hln,hri])
      exact ⟨(by simp (maxSteps:=1000000)(disch:=(first|omega|(simp only [qI,qJ,qK]<;>omega)|exact qL _)) only [go_sem,↓reduceIte,n0,reduceCtorEq,n1,n2,n3,n4,n5,i0,i1,i2,i3,i4,i5,i6,i7,Holds_nil,Holds_cons,h2,h3,hln,hri]),hE3,ha3,hb3⟩
  rintro ρ w6 ⟨⟨h2,h3,-⟩,hE6,ha6,hb6⟩
  repeat ((first | refine qA rfl ?_|refine qB ?_|refine qC rfl ?_|refine qD ?_|refine qE ?_|refine qF ?_|refine qG ?_|refine qH ?_);try simp (maxSteps:=1000000)(disch:=(first|omega|(simp only [qI,qJ,qK]<;>omega)|exact qL _)) only [go_sem,↓reduceIte,n0,reduceCtorEq,n1,n2,n3,n4,n5,i0,i1,i2,i3,i4,i5,i6,i7,h2,h3])
  all_goals exact hE6

theorem SameTree_fn {t : Tree} (h : Small 32767 t) : ∀ (ok : Blocks) (ca cb : List Value) (w : World),TreeC ok w t ca → TreeC ok w t cb → Fn Tryd.prog 20 #[.agg ca.toArray,.agg cb.toArray] w fun r w' => r = .bool true ∧ Ext w w' := by
  induction h with
  | mk hs hl hu he hd ih => exact SameTree_step _ hs hl hu hd ih
end Ms

