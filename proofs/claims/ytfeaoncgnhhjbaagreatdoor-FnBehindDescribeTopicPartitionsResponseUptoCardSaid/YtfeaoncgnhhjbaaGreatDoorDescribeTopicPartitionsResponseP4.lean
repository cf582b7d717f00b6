/- A part of the proof: see the last text. -/
import Derived.Test.YtfeaoncgnhhjbaaGreatDoorC05
import Derived.Test.YtfeaoncgnhhjbaaGreatDoorC06
import Derived.Test.YtfeaoncgnhhjbaaGreatDoorC10
import Derived.Test.YtfeaoncgnhhjbaaGreatDoorDescribeTopicPartitionsResponseP0
import Derived.Test.YtfeaoncgnhhjbaaGreatDoorDescribeTopicPartitionsResponseP2
import Derived.Test.YtfeaoncgnhhjbaaGreatDoorDescribeTopicPartitionsResponseP3
set_option linter.unusedSimpArgs false
set_option linter.unusedVariables false
namespace Ms
open Go.World renaming size_alloc → qI
open Ms renaming size_wr → qJ,size_drew → qK,not_noB → qL
open W renaming seqR → qA,seq → qB,regR → qC,condK → qD,block → qE,skip → qF,ret → qG,exit → qH
open Nat renaming reduceEqDiff → n0,reduceAdd → n1,reduceMul → n2,reduceSub → n3,reduceLT → n4,reduceLeDiff → n5
open Int renaming reduceEq → i0,reduceLT → i1,reduceLE → i2,reduceNeg → i3,reduceAdd → i4,reduceSub → i5,reduceMul → i6,reduceToNat → i7
set_option maxRecDepth 8000
open Go Go.Proofs Go.Shelf
attribute [local congr] W_congr WPsq_congr WPp_congr optK_congr addrK_congr intK_congr boolK_congr sliceK_congr tupleK_congr funcK_congr Fn_congr rawK_congr takeK_congr stepK_congr convK_congr aggK_congr

set_option maxHeartbeats 2000000 in
theorem BehindQ_fn {d : Nat} {ok : Blocks} {ev : Value} (ver : Nat) (hv : ver ≤ 0) (t : Tree) (dst b : Value) (D : List UInt8) (w : World) (hd : BytesV ok w dst D) (hb : BytesV ok w b (partS (d + 3) fsr_Q ver (flexB 0 ver) t)) (hG : Glo ev w) (hrd : rdP (d + 3) ver (flexB 0 ver) fsr_Q (some (partS (d + 3) fsr_Q ver (flexB 0 ver) t)) = (cnP (d + 3) ver (flexB 0 ver) fsr_Q t,some []))
    (hcn : partS (d + 3) fsr_Q ver (flexB 0 ver) (cnP (d + 3) ver (flexB 0 ver) fsr_Q t) = (partS (d + 3) fsr_Q ver (flexB 0 ver) t) ∧ FitW ver (d + 3) fsr_Q (cnP (d + 3) ver (flexB 0 ver) fsr_Q t)) (hD : D.length ≤ 1000) (hl : (partS (d + 3) fsr_Q ver (flexB 0 ver) t).length ≤ 2 ^ 40) :
    Fn Tryz.prog 9 #[.int .i64 ver,dst,b] w fun r w' => (∃ v,r = .tuple #[v,.bool true] ∧ OwnBy 5 w.heap.size w' v (D ++ (partS (d + 3) fsr_Q ver (flexB 0 ver) t))) ∧ Ext w w' := by
  obtain ⟨da,dc,rfl,_⟩ := hd.shape
  obtain ⟨ba,bc,rfl,_⟩ := hb.shape
  have hgl := hG.lt
  have ew : IntKind.i16.wrap (ver : Int) = ver := i16_wrap (by omega)
  refine fn_of_W Tryz.func9 rfl Tryz.results9 Tryz.ntmps9 rfl ?_
  repeat ((first | refine qA rfl ?_|apply qB|refine qC rfl ?_|apply qD|apply qE|apply qF|apply qG|apply qH);try simp (maxSteps:=1000000)(disch:=(first|omega|(simp only [qI,qJ,qK]<;>omega)|exact qL _)) only [go_sem,↓reduceIte,n0,reduceCtorEq,n1,n2,n3,n4,n5,i0,i1,i2,i3,i4,i5,i6,i7,ew])
  refine (NewPtrQ_fn w).mono ?_
  rintro _ w1 ⟨rfl,hb1,hE1⟩
  have hz1 := blk_lt hb1
  repeat ((first | refine qA rfl ?_|apply qB|refine qC rfl ?_|apply qD|apply qE|apply qF|apply qG|apply qH);try simp (maxSteps:=1000000)(disch:=(first|omega|(simp only [qI,qJ,qK]<;>omega)|exact qL _)) only [go_sem,↓reduceIte,n0,reduceCtorEq,n1,n2,n3,n4,n5,i0,i1,i2,i3,i4,i5,i6,i7,ew])
  refine (SetVersionQ_fn w1 (vb := w.heap.size) ver hb1).mono ?_
  rintro _ w2 ⟨hb2,hU2⟩
  have hz2 := hU2.size
  have hE2 : Ext w w2 := hE1.more hU2 fun b hb h => by omega
  repeat ((first | refine qA rfl ?_|apply qB|refine qC rfl ?_|apply qD|apply qE|apply qF|apply qG|apply qH);try simp (maxSteps:=1000000)(disch:=(first|omega|(simp only [qI,qJ,qK]<;>omega)|exact qL _)) only [go_sem,↓reduceIte,n0,reduceCtorEq,n1,n2,n3,n4,n5,i0,i1,i2,i3,i4,i5,i6,i7,ew])
  refine wp_copyN ap_22_22 (ok := ok) (s := (partS (d + 3) fsr_Q ver (flexB 0 ver) t)) (v := .slice ba _ bc) (by first | rfl | simp (maxSteps:=1000000)(disch:=(first|omega|(simp only [qI,qJ,qK]<;>omega)|exact qL _)) only [go_sem,↓reduceIte,n0,reduceCtorEq,n1,n2,n3,n4,n5,i0,i1,i2,i3,i4,i5,i6,i7]) (by first | rfl | simp (maxSteps:=1000000)(disch:=(first|omega|(simp only [qI,qJ,qK]<;>omega)|exact qL _)) only [go_sem,↓reduceIte,n0,reduceCtorEq,n1,n2,n3,n4,n5,i0,i1,i2,i3,i4,i5,i6,i7]) (hb.keep (hE2.keeps _)) (by omega) ?_
  intro v3 w3 ho3 hE3 hf3
  have hz3 := hE3.size
  have hb3 := hE3.blk_some hb2 id
  have hG3 : Glo ev w3 := hG.updS (hE2.trans hE3) id id
  obtain ⟨a3,c3,rfl,_⟩ := ho3.shape
  simp (maxSteps:=1000000)(disch:=(first|omega|(simp only [qI,qJ,qK]<;>omega)|exact qL _)) only [go_sem,↓reduceIte,n0,reduceCtorEq,n1,n2,n3,n4,n5,i0,i1,i2,i3,i4,i5,i6,i7]
  refine (ReadFromQ_fn (d := d) (ok := fun b => b < w3.heap.size ∧ b ≠ w.heap.size) (ev := ev) (ver := ver) (by omega) (by omega) w3 _ _ hb3 ((Own.bytes ho3 hf3).weaken fun b hb hk => ⟨hb,by omega⟩) (fun b hb => hb) hG3 ⟨by omega,by omega⟩).mono ?_
  rintro r4 w4 ⟨_,h4,hU4⟩
  rw [hrd] at h4
  obtain ⟨rfl,cells,hb4,hR4⟩ := h4 (by simp)
  have hz4 := hU4.size
  have hE4 : Ext w w4 := (hE2.trans hE3).more hU4 fun b hb h => by omega
  have hR4' : RepS true (d + 3) fsr_Q (fun b => b < w4.heap.size) w4 (cnP (d + 3) ver (flexB 0 ver) fsr_Q t) cells := (RepS_lay true (d + 3) fsr_Q).weaken hR4 fun b hb _ => hb
  repeat (first|simp (maxSteps:=1000000)(disch:=(first|omega|(simp only [qI,qJ,qK]<;>omega)|exact qL _)) only [go_sem,↓reduceIte,n0,reduceCtorEq,n1,n2,n3,n4,n5,i0,i1,i2,i3,i4,i5,i6,i7]|refine qA rfl ?_|apply qB|refine qC rfl ?_|apply qD|apply qE|apply qF|apply qG|apply qH)
  refine wp_copyN ap_22_22 (ok := ok) (s := D) (v := .slice da _ dc) (by first | rfl | simp (maxSteps:=1000000)(disch:=(first|omega|(simp only [qI,qJ,qK]<;>omega)|exact qL _)) only [go_sem,↓reduceIte,n0,reduceCtorEq,n1,n2,n3,n4,n5,i0,i1,i2,i3,i4,i5,i6,i7]) (by first | rfl | simp (maxSteps:=1000000)(disch:=(first|omega|(simp only [qI,qJ,qK]<;>omega)|exact qL _)) only [go_sem,↓reduceIte,n0,reduceCtorEq,n1,n2,n3,n4,n5,i0,i1,i2,i3,i4,i5,i6,i7]) (hd.keep (hE4.keeps _)) (by omega) ?_
  intro v5 w5 ho5 hE5 hf5
  have hz5 := hE5.size
  have hb5 := hE5.blk_some hb4 id
  have hR5 := (RepS_lay true (d + 3) fsr_Q).keep hR4' (hE5.keeps _)
  obtain ⟨a5,c5,rfl,_⟩ := ho5.shape
  simp (maxSteps:=1000000)(disch:=(first|omega|(simp only [qI,qJ,qK]<;>omega)|exact qL _)) only [go_sem,↓reduceIte,n0,reduceCtorEq,n1,n2,n3,n4,n5,i0,i1,i2,i3,i4,i5,i6,i7]
  have hcl : (0 ≤ (ver : Int) ∧ (ver : Int) ≤ 0) := by omega
  rcases hcl with ⟨h1,h2⟩
  · have hfl : flexB 0 ver = true := by simp only [flexB,Bool.and_eq_true,decide_eq_true_eq];omega
    rw [hfl] at hcn hR5 hl ⊢
    refine (appQ_0 (d := d) (B := w.heap.size) h1 h2 _ cells _ D w5 (Own.mono ho5 (by omega)) (by omega) hb5 hR5 hcn.2 (fun b _ h1 h2 => by have := hf5 b h2;omega) (fun h => by have := hf5 _ h;omega) (by rw [hcn.1];omega)).mono ?_
    rintro r6 w6 h6
    repeat ((first | refine qA rfl ?_|apply qB|refine qC rfl ?_|apply qD|apply qE|apply qF|apply qG|apply qH);try simp (maxSteps:=1000000)(disch:=(first|omega|(simp only [qI,qJ,qK]<;>omega)|exact qL _)) only [go_sem,↓reduceIte,n0,reduceCtorEq,n1,n2,n3,n4,n5,i0,i1,i2,i3,i4,i5,i6,i7])
    refine ⟨by have := h6.own;rw [hcn.1] at this;exact ⟨_,rfl,this⟩,(hE4.trans hE5).more h6.upd fun b hb h => by have := hf5 b h;omega⟩


theorem fieldGQ0_6 (pt : List Fld → Int → Bool → Tree → List UInt8) (v : Int) (flex : Bool) (x : Tree) : fieldS pt frX0_6 v flex (x.setNull false) = fieldS pt fX0_6 v flex x := by
  unfold fieldS
  rw [if_pos (show frX0_6.kind = 11 from rfl),if_pos (show fX0_6.kind = 11 from rfl)]
  have h1 : nullS frX0_6 v (x.setNull false) = false := by simp [nullS,Tree.setNull,Tree.null]
  have h2 : nullS fX0_6 v x = false := by simp [nullS,show fX0_6.null = -1 from rfl]
  rw [h1,h2];rfl
theorem fieldGQ0_7 (pt : List Fld → Int → Bool → Tree → List UInt8) (v : Int) (flex : Bool) (x : Tree) : fieldS pt frX0_7 v flex (x.setNull false) = fieldS pt fX0_7 v flex x := by
  unfold fieldS
  rw [if_pos (show frX0_7.kind = 11 from rfl),if_pos (show fX0_7.kind = 11 from rfl)]
  have h1 : nullS frX0_7 v (x.setNull false) = false := by simp [nullS,Tree.setNull,Tree.null]
  have h2 : nullS fX0_7 v x = false := by simp [nullS,show fX0_7.null = -1 from rfl]
  rw [h1,h2];rfl
def rGQ0 (t : Tree) : Tree := .mk t.n t.s t.null [(t.at 0),(t.at 1),(t.at 2),(t.at 3),(t.at 4),(t.at 5),((t.at 6).setNull false),((t.at 7).setNull false),(t.at 8)] t.u
theorem partGQ0 (d : Nat) (v : Int) (flex : Bool) (t : Tree) : partS (d + 1) fsr_X0 v flex (rGQ0 t) = partS (d + 1) fs_X0 v flex t := by
  have hk1 : knownS fsr_X0 = 0 := rfl
  have hk2 : knownS fs_X0 = 0 := rfl
  have e1 : tagsS (partS d) (d + 1) fsr_X0 v flex (rGQ0 t) = [] := by unfold tagsS;rw [hk1];rfl
  have e2 : tagsS (partS d) (d + 1) fs_X0 v flex t = [] := by unfold tagsS;rw [hk2];rfl
  have hu : unknownS fsr_X0 (rGQ0 t).u = unknownS fs_X0 t.u := rfl
  have hp : plainL (partS d) v flex (rGQ0 t) fsr_X0 0 = plainL (partS d) v flex t fs_X0 0 := by
    show plainL (partS d) v flex (rGQ0 t) [fX0_0,fX0_1,fX0_2,fX0_3,fX0_4,fX0_5,frX0_6,frX0_7,fX0_8] 0 = plainL (partS d) v flex t [fX0_0,fX0_1,fX0_2,fX0_3,fX0_4,fX0_5,fX0_6,fX0_7,fX0_8] 0
    simp only [plainL,Nat.zero_add,Nat.reduceAdd]
    rw [show (rGQ0 t).at 6 = ((t.at 6).setNull false) from rfl,fieldGQ0_6]
    rw [show (rGQ0 t).at 7 = ((t.at 7).setNull false) from rfl,fieldGQ0_7]
    rfl
  rw [partS_eq,partS_eq]
  unfold partT
  rw [e1,e2,plainS_L,plainS_L,hp,hu]
theorem sizedGQ0 {N : Nat} {t : Tree} (h : Sized N t) : ∃ M,Sized M (rGQ0 t) := by
  have hu : ∀ x ∈ t.u,x.1 < 4294967296 := by cases h with | mk ns hl he hk hN => exact hk
  have hn : ∀ (x : Tree) (b : Bool),Sized N x → Sized N (x.setNull b) := fun x b h => by cases h with | mk ns hl he hk hN => exact .mk ns hl he hk hN
  refine ⟨_,.mk [N,N,N,N,N,N,N,N,N] rfl (fun i h1 h2 => ?_) hu (Nat.le_refl _)⟩
  match i,h1,h2 with
  | 0,_,_ => exact h.at 0
  | 1,_,_ => exact h.at 1
  | 2,_,_ => exact h.at 2
  | 3,_,_ => exact h.at 3
  | 4,_,_ => exact h.at 4
  | 5,_,_ => exact h.at 5
  | 6,_,_ => exact hn _ _ (h.at 6)
  | 7,_,_ => exact hn _ _ (h.at 7)
  | 8,_,_ => exact h.at 8
def rLQ1 (t : Tree) : Tree := .mk t.n t.s t.null (t.l.map rGQ0) t.u
theorem fieldLQ1 (d : Nat) (v : Int) (flex : Bool) (x : Tree) : fieldS (partS (d + 1)) frX2_4 v flex (rLQ1 x) = fieldS (partS (d + 1)) fX2_4 v flex x := by
  unfold fieldS
  rw [if_pos (show frX2_4.kind = 11 from rfl),if_pos (show fX2_4.kind = 11 from rfl)]
  have h1 : nullS frX2_4 v (rLQ1 x) = false := by simp [nullS,show frX2_4.null = -1 from rfl]
  have h2 : nullS fX2_4 v x = false := by simp [nullS,show fX2_4.null = -1 from rfl]
  rw [h1,h2]
  simp only [Bool.false_eq_true,if_false]
  have ht : thingsS (rLQ1 x).l = (thingsS x.l).map rGQ0 := by simp [thingsS,rLQ1,Tree.l,List.map_take]
  rw [ht,List.length_map,List.flatMap_map]
  congr 1
  refine flatMap_ext fun y _ => ?_
  show valueS _ 10 fsr_X0 _ _ _ _ = valueS _ 10 fs_X0 _ _ _ _
  rw [valueS_part,valueS_part]
  exact partGQ0 d v flex y
def rGQ1 (t : Tree) : Tree := .mk t.n t.s t.null [(t.at 0),(t.at 1),(t.at 2),(t.at 3),(rLQ1 (t.at 4)),(t.at 5)] t.u
theorem partGQ1 (d : Nat) (v : Int) (flex : Bool) (t : Tree) : partS (d + 2) fsr_X2 v flex (rGQ1 t) = partS (d + 2) fs_X2 v flex t := by
  have hk1 : knownS fsr_X2 = 0 := rfl
  have hk2 : knownS fs_X2 = 0 := rfl
  have e1 : tagsS (partS (d + 1)) (d + 2) fsr_X2 v flex (rGQ1 t) = [] := by unfold tagsS;rw [hk1];rfl
  have e2 : tagsS (partS (d + 1)) (d + 2) fs_X2 v flex t = [] := by unfold tagsS;rw [hk2];rfl
  have hu : unknownS fsr_X2 (rGQ1 t).u = unknownS fs_X2 t.u := rfl
  have hp : plainL (partS (d + 1)) v flex (rGQ1 t) fsr_X2 0 = plainL (partS (d + 1)) v flex t fs_X2 0 := by
    show plainL (partS (d + 1)) v flex (rGQ1 t) [fX2_0,fX2_1,fX2_2,fX2_3,frX2_4,fX2_5] 0 = plainL (partS (d + 1)) v flex t [fX2_0,fX2_1,fX2_2,fX2_3,fX2_4,fX2_5] 0
    simp only [plainL,Nat.zero_add,Nat.reduceAdd]
    rw [show (rGQ1 t).at 4 = (rLQ1 (t.at 4)) from rfl,fieldLQ1]
    rfl
  rw [partS_eq,partS_eq]
  unfold partT
  rw [e1,e2,plainS_L,plainS_L,hp,hu]
theorem sizedLQ1 {N : Nat} {t : Tree} (h : Sized N t) : ∃ M,Sized M (rLQ1 t) := by
  have hu : ∀ x ∈ t.u,x.1 < 4294967296 := by cases h with | mk ns hl he hk hN => exact hk
  have key : ∀ l : List Tree,(∀ x ∈ l,∃ N,Sized N x) → ∃ ns : List Nat,ns.length = (l.map rGQ0).length ∧ ∀ i (h1 : i < (l.map rGQ0).length) (h2 : i < ns.length),Sized ns[i] (l.map rGQ0)[i] := by
    intro l
    induction l with
    | nil => intro _;exact ⟨[],rfl,fun i h => by simp at h⟩
    | cons x l ih =>
      intro hx
      obtain ⟨ns,h1,h2⟩ := ih fun y hy => hx y (by simp [hy])
      obtain ⟨N,hN⟩ := hx x (by simp)
      obtain ⟨M,hM⟩ := sizedGQ0 hN
      refine ⟨M :: ns,by simp [h1],fun i g1 g2 => ?_⟩
      match i,g1,g2 with
      | 0,_,_ => exact hM
      | i + 1,g1,g2 => exact h2 i (by simpa using g1) (by simpa using g2)
  obtain ⟨ns,h1,h2⟩ := key t.l fun x hx => by
    obtain ⟨i,hi,rfl⟩ := List.getElem_of_mem hx
    exact h.el hi
  exact ⟨_,.mk ns h1 h2 hu (Nat.le_refl _)⟩
theorem sizedGQ1 {N : Nat} {t : Tree} (h : Sized N t) : ∃ M,Sized M (rGQ1 t) := by
  have hu : ∀ x ∈ t.u,x.1 < 4294967296 := by cases h with | mk ns hl he hk hN => exact hk
  obtain ⟨M,hM⟩ := sizedLQ1 (h.at 4)
  refine ⟨_,.mk [N,N,N,N,M,N] rfl (fun i h1 h2 => ?_) hu (Nat.le_refl _)⟩
  match i,h1,h2 with
  | 0,_,_ => exact h.at 0
  | 1,_,_ => exact h.at 1
  | 2,_,_ => exact h.at 2
  | 3,_,_ => exact h.at 3
  | 4,_,_ => exact hM
  | 5,_,_ => exact h.at 5
def rLQ2 (t : Tree) : Tree := .mk t.n t.s t.null (t.l.map rGQ1) t.u
theorem fieldLQ2 (d : Nat) (v : Int) (flex : Bool) (x : Tree) : fieldS (partS (d + 2)) frQ_1 v flex (rLQ2 x) = fieldS (partS (d + 2)) fQ_1 v flex x := by
  unfold fieldS
  rw [if_pos (show frQ_1.kind = 11 from rfl),if_pos (show fQ_1.kind = 11 from rfl)]
  have h1 : nullS frQ_1 v (rLQ2 x) = false := by simp [nullS,show frQ_1.null = -1 from rfl]
  have h2 : nullS fQ_1 v x = false := by simp [nullS,show fQ_1.null = -1 from rfl]
  rw [h1,h2]
  simp only [Bool.false_eq_true,if_false]
  have ht : thingsS (rLQ2 x).l = (thingsS x.l).map rGQ1 := by simp [thingsS,rLQ2,Tree.l,List.map_take]
  rw [ht,List.length_map,List.flatMap_map]
  congr 1
  refine flatMap_ext fun y _ => ?_
  show valueS _ 10 fsr_X2 _ _ _ _ = valueS _ 10 fs_X2 _ _ _ _
  rw [valueS_part,valueS_part]
  exact partGQ1 d v flex y
def rGQ2 (t : Tree) : Tree := .mk t.n t.s t.null [(t.at 0),(rLQ2 (t.at 1)),(t.at 2)] t.u
theorem partGQ2 (d : Nat) (v : Int) (flex : Bool) (t : Tree) : partS (d + 3) fsr_Q v flex (rGQ2 t) = partS (d + 3) fs_Q v flex t := by
  have hk1 : knownS fsr_Q = 0 := rfl
  have hk2 : knownS fs_Q = 0 := rfl
  have e1 : tagsS (partS (d + 2)) (d + 3) fsr_Q v flex (rGQ2 t) = [] := by unfold tagsS;rw [hk1];rfl
  have e2 : tagsS (partS (d + 2)) (d + 3) fs_Q v flex t = [] := by unfold tagsS;rw [hk2];rfl
  have hu : unknownS fsr_Q (rGQ2 t).u = unknownS fs_Q t.u := rfl
  have hp : plainL (partS (d + 2)) v flex (rGQ2 t) fsr_Q 0 = plainL (partS (d + 2)) v flex t fs_Q 0 := by
    show plainL (partS (d + 2)) v flex (rGQ2 t) [fQ_0,frQ_1,fQ_2] 0 = plainL (partS (d + 2)) v flex t [fQ_0,fQ_1,fQ_2] 0
    simp only [plainL,Nat.zero_add,Nat.reduceAdd]
    rw [show (rGQ2 t).at 1 = (rLQ2 (t.at 1)) from rfl,fieldLQ2]
    rfl
  rw [partS_eq,partS_eq]
  unfold partT
  rw [e1,e2,plainS_L,plainS_L,hp,hu]
theorem sizedLQ2 {N : Nat} {t : Tree} (h : Sized N t) : ∃ M,Sized M (rLQ2 t) := by
  have hu : ∀ x ∈ t.u,x.1 < 4294967296 := by cases h with | mk ns hl he hk hN => exact hk
  have key : ∀ l : List Tree,(∀ x ∈ l,∃ N,Sized N x) → ∃ ns : List Nat,ns.length = (l.map rGQ1).length ∧ ∀ i (h1 : i < (l.map rGQ1).length) (h2 : i < ns.length),Sized ns[i] (l.map rGQ1)[i] := by
    intro l
    induction l with
    | nil => intro _;exact ⟨[],rfl,fun i h => by simp at h⟩
    | cons x l ih =>
      intro hx
      obtain ⟨ns,h1,h2⟩ := ih fun y hy => hx y (by simp [hy])
      obtain ⟨N,hN⟩ := hx x (by simp)
      obtain ⟨M,hM⟩ := sizedGQ1 hN
      refine ⟨M :: ns,by simp [h1],fun i g1 g2 => ?_⟩
      match i,g1,g2 with
      | 0,_,_ => exact hM
      | i + 1,g1,g2 => exact h2 i (by simpa using g1) (by simpa using g2)
  obtain ⟨ns,h1,h2⟩ := key t.l fun x hx => by
    obtain ⟨i,hi,rfl⟩ := List.getElem_of_mem hx
    exact h.el hi
  exact ⟨_,.mk ns h1 h2 hu (Nat.le_refl _)⟩
theorem sizedGQ2 {N : Nat} {t : Tree} (h : Sized N t) : ∃ M,Sized M (rGQ2 t) := by
  have hu : ∀ x ∈ t.u,x.1 < 4294967296 := by cases h with | mk ns hl he hk hN => exact hk
  obtain ⟨M,hM⟩ := sizedLQ2 (h.at 1)
  refine ⟨_,.mk [N,M,N] rfl (fun i h1 h2 => ?_) hu (Nat.le_refl _)⟩
  match i,h1,h2 with
  | 0,_,_ => exact h.at 0
  | 1,_,_ => exact hM
  | 2,_,_ => exact h.at 2
abbrev rTQ := rGQ2
theorem partRQ (d : Nat) (v : Int) (flex : Bool) (t : Tree) : partS (d + 3) fsr_Q v flex (rTQ t) = partS (d + 3) fs_Q v flex t := partGQ2 d v flex t
theorem sizedRQ {N : Nat} {t : Tree} (h : Sized N t) : ∃ M,Sized M (rTQ t) := sizedGQ2 h

set_option maxHeartbeats 2000000 in
theorem law_BehindQ {ok : Blocks} {ev : Value} (n : Nat) (hn : n < 256) (dst : Value) (Dd : List UInt8) (t : Tree) (ct : List Value) (w : World) (hd : BytesV ok w dst Dd) (ht : TreeC ok w t ct) (hsm : Small 4611686018427387903 t) (hG : Glo ev w) (hDl : Dd.length ≤ 1048576) {N : Nat} (hN : N ≤ 1048576) (hsz : Sized N t) :
    Fn Tryz.prog 3 #[.int .u8 n,dst,.agg ct.toArray] w fun r w' => r = .bool true ∧ Ext w w' := by
  obtain ⟨vS,vL,vU,rfl,hn',hS,hL,hU⟩ := ht.inv
  obtain ⟨da,dc,rfl,_⟩ := hd.shape
  have f1 := hS.flat
  have f2 := SlR.flat hL
  have f3 := SlR.flat hU
  have hD1 : ¬ (2147483647 : Int) < (Dd.length : Int) := by omega
  have hE : Ext w (w.alloc (.cells #[.int .i64 t.n,vS,.bool t.null,vL,vU] 26)) := Upd.alloc (Upd.refl _ _) _
  refine fn_of_W Tryz.func3 rfl Tryz.results3 Tryz.ntmps3 rfl ?_
  repeat ((first | refine qA rfl ?_|apply qB|refine qC rfl ?_|apply qD|apply qE|apply qF|apply qG|apply qH);try simp (maxSteps:=1000000)(disch:=(first|omega|(simp only [qI,qJ,qK]<;>omega)|exact qL _)) only [go_sem,↓reduceIte,n0,reduceCtorEq,n1,n2,n3,n4,n5,i0,i1,i2,i3,i4,i5,i6,i7,f1,f2,f3,cellsAt_five,hD1])
  have hb : blk (w.alloc (.cells #[.int .i64 t.n,vS,.bool t.null,vL,vU] 26)) w.heap.size = some (#[.int .i64 t.n,vS,.bool t.null,vL,vU],26,(0,0)) := blk_alloc_new rfl
  generalize (w.alloc (.cells #[.int .i64 t.n,vS,.bool t.null,vL,vU] 26)) = w1 at *
  refine (zzFits1_fn (ok := ok) t _ w1 (ht.keep (hE.keeps _)) hsm).mono ?_
  rintro r2 w2 ⟨⟨bb,rfl⟩,hE2⟩
  cases bb with
  | false =>
    simp (maxSteps:=1000000)(disch:=(first|omega|(simp only [qI,qJ,qK]<;>omega)|exact qL _)) only [go_sem,↓reduceIte,n0,reduceCtorEq,n1,n2,n3,n4,n5,i0,i1,i2,i3,i4,i5,i6,i7]
    repeat ((first | refine qA rfl ?_|apply qB|refine qC rfl ?_|apply qD|apply qE|apply qF|apply qG|apply qH);try simp (maxSteps:=1000000)(disch:=(first|omega|(simp only [qI,qJ,qK]<;>omega)|exact qL _)) only [go_sem,↓reduceIte,n0,reduceCtorEq,n1,n2,n3,n4,n5,i0,i1,i2,i3,i4,i5,i6,i7])
    all_goals exact hE.trans hE2
  | true =>
    simp (maxSteps:=1000000)(disch:=(first|omega|(simp only [qI,qJ,qK]<;>omega)|exact qL _)) only [go_sem,↓reduceIte,n0,reduceCtorEq,n1,n2,n3,n4,n5,i0,i1,i2,i3,i4,i5,i6,i7]
    repeat ((first | refine qA rfl ?_|apply qB|refine qC rfl ?_|apply qD|apply qE|apply qF|apply qG|apply qH);try simp (maxSteps:=1000000)(disch:=(first|omega|(simp only [qI,qJ,qK]<;>omega)|exact qL _)) only [go_sem,↓reduceIte,n0,reduceCtorEq,n1,n2,n3,n4,n5,i0,i1,i2,i3,i4,i5,i6,i7])
    refine (MaxQ_fn w2).mono ?_
    rintro _ w2m ⟨rfl,hE2m⟩
    repeat ((first | refine qA rfl ?_|apply qB|refine qC rfl ?_|apply qD|apply qE|apply qF|apply qG|apply qH);try simp (maxSteps:=1000000)(disch:=(first|omega|(simp only [qI,qJ,qK]<;>omega)|exact qL _)) only [go_sem,↓reduceIte,n0,reduceCtorEq,n1,n2,n3,n4,n5,i0,i1,i2,i3,i4,i5,i6,i7])
    refine (cQ_fn w2m).mono ?_
    rintro r3 w3 ⟨⟨vs,rfl,hF0⟩,hE3⟩
    have hF : FldsV AnyB w3 vs fs_Q := hF0.weaken fun _ _ _ => trivial
    have fF := SlR.flat hF
    simp (maxSteps:=1000000)(disch:=(first|omega|(simp only [qI,qJ,qK]<;>omega)|exact qL _)) only [go_sem,↓reduceIte,n0,reduceCtorEq,n1,n2,n3,n4,n5,i0,i1,i2,i3,i4,i5,i6,i7]
    refine (version_fn w3 n 0 hn (by decide)).mono ?_
    rintro _ w3v ⟨rfl,rfl⟩
    have hE03 : Ext w w3v := ((hE.trans hE2).trans hE2m).trans hE3
    have hb3 := hE3.blk_some (hE2m.blk_some (hE2.blk_some hb id) id) id
    have hE4 : Ext w3v (wr (w3v.alloc (.cells #[.slice none 0 0,.int .i64 0] 31)) w3v.heap.size 0 [vs,.int .i64 0]) := (Upd.alloc (Upd.refl _ _) _).wr _ _ (.inl (Nat.le_refl _))
    have hb4 : blk (wr (w3v.alloc (.cells #[.slice none 0 0,.int .i64 0] 31)) w3v.heap.size 0 [vs,.int .i64 0]) w3v.heap.size = some (#[vs,.int .i64 0],31,(0,0)) := by simp (maxSteps:=1000000)(disch:=(first|omega|(simp only [qI,qJ,qK]<;>omega)|exact qL _)) only [go_sem,↓reduceIte,n0,reduceCtorEq,n1,n2,n3,n4,n5,i0,i1,i2,i3,i4,i5,i6,i7]
    simp (maxSteps:=1000000)(disch:=(first|omega|(simp only [qI,qJ,qK]<;>omega)|exact qL _)) only [go_sem,↓reduceIte,n0,reduceCtorEq,n1,n2,n3,n4,n5,i0,i1,i2,i3,i4,i5,i6,i7,fF]
    generalize (wr (w3v.alloc (.cells #[.slice none 0 0,.int .i64 0] 31)) w3v.heap.size 0 [vs,.int .i64 0]) = w4 at *
    have hb34 := hE4.blk_some hb3 id
    have hv3 : n % 1 < 1 := Nat.mod_lt _ (by omega)
    generalize n % 1 = ver at *
    have hs1 := blk_lt hb4
    have hs2 := blk_lt hb34
    by_cases hD2 : (1000 : Int) < (Dd.length : Int)
    · repeat ((first | refine qA rfl ?_|apply qB|refine qC rfl ?_|apply qD|apply qE|apply qF|apply qG|apply qH);try simp (maxSteps:=1000000)(disch:=(first|omega|(simp only [qI,qJ,qK]<;>omega)|exact qL _)) only [go_sem,↓reduceIte,n0,reduceCtorEq,n1,n2,n3,n4,n5,i0,i1,i2,i3,i4,i5,i6,i7,hD2])
      all_goals exact hE03.trans hE4
    repeat ((first | refine qA rfl ?_|apply qB|refine qC rfl ?_|apply qD|apply qE|apply qF|apply qG|apply qH);try simp (maxSteps:=1000000)(disch:=(first|omega|(simp only [qI,qJ,qK]<;>omega)|exact qL _)) only [go_sem,↓reduceIte,n0,reduceCtorEq,n1,n2,n3,n4,n5,i0,i1,i2,i3,i4,i5,i6,i7,hD2,hb34,hb4,cellsAt_five,cellsAt_two])
    have hE04 : Ext w w4 := hE03.trans hE4
    have hokF : okF 3 fs_Q = true := by decide
    have hokM : okBd 3 fs_Q = true := by decide
    have hokR : okR 3 ver (flexB 0 ver) fs_Q = true := (by decide : ∀ v : Fin 1,okR 3 ((v.val : Nat) : Int) (flexB 0 ((v.val : Nat) : Int)) fs_Q = true) ⟨ver,hv3⟩
    have hpl : (partS 4 fs_Q ver (flexB 0 ver) t).length ≤ 2 ^ 40 := Nat.le_trans (partS_boundB ver _ 3 fs_Q N t hokM hsz) (Nat.le_trans (Nat.mul_le_mul_left _ (Nat.succ_le_succ hN)) (by decide))
    refine (Write_fn (ok := AnyB) (d := 3) fs_Q 0 ver t vs _ w4 (hF.keep (Ext.keeps hE4 _)) hokF ((ht.weaken fun _ _ _ => trivial).keep (Ext.keeps hE04 _)) hsm hpl).mono ?_
    rintro r5 w5 ⟨ho5,hE5⟩
    have hE05 := hE04.trans hE5
    obtain ⟨a5,c5,rfl,_⟩ := ho5.shape
    repeat ((first | refine qA rfl ?_|apply qB|refine qC rfl ?_|apply qD|apply qE|apply qF|apply qG|apply qH);try simp (maxSteps:=1000000)(disch:=(first|omega|(simp only [qI,qJ,qK]<;>omega)|exact qL _)) only [go_sem,↓reduceIte,n0,reduceCtorEq,n1,n2,n3,n4,n5,i0,i1,i2,i3,i4,i5,i6,i7])
    obtain ⟨M,hM⟩ := sizedRQ hsz
    have hokRR : okR 3 ver (flexB 0 ver) fsr_Q = true := (by decide : ∀ v : Fin 1,okR 3 ((v.val : Nat) : Int) (flexB 0 ((v.val : Nat) : Int)) fsr_Q = true) ⟨ver,hv3⟩
    have hpe : partS (1 + 3) fsr_Q ver (flexB 0 ver) (rTQ t) = partS 4 fs_Q ver (flexB 0 ver) t := partRQ 1 ver (flexB 0 ver) t
    have hrd := (rdP_part ver (flexB 0 ver) 3 fsr_Q M (rTQ t) hokRR hM).1 []
    rw [List.append_nil] at hrd
    refine (BehindQ_fn (d := 1) (ok := AnyB) (ev := ev) ver (by omega) (rTQ t) _ _ Dd w5 ((hd.weaken (ok' := AnyB) fun _ _ _ => trivial).keep (Ext.keeps hE05 _)) (by rw [hpe];exact Own.bytes (ok := AnyB) ho5 fun _ _ => trivial) (hG.updS hE05 id id) hrd (partS_cn ver (flexB 0 ver) 3 fsr_Q (rTQ t) hokRR) (by omega) (by rw [hpe];exact hpl)).mono ?_
    rintro _ w6 ⟨⟨v6,rfl,ho6⟩,hE6⟩
    rw [hpe] at ho6
    have hE06 := hE05.trans hE6
    obtain ⟨a6,c6,rfl,_⟩ := ho6.shape
    repeat (first|simp (maxSteps:=1000000)(disch:=(first|omega|(simp only [qI,qJ,qK]<;>omega)|exact qL _)) only [go_sem,↓reduceIte,n0,reduceCtorEq,n1,n2,n3,n4,n5,i0,i1,i2,i3,i4,i5,i6,i7]|refine qA rfl ?_|apply qB|refine qC rfl ?_|apply qD|apply qE|apply qF|apply qG|apply qH)
    have hE7 : Ext w6 (w6.alloc (.cells #[] 5)) := Upd.alloc (Upd.refl _ _) _
    have ho7 : Own w6.heap.size (w6.alloc (.cells #[] 5)) 5 1 (.slice (some ⟨w6.heap.size,0,none⟩) 0 0) 0 [] := ⟨by simp,.inr ⟨_,0,[],(0,0),rfl,Nat.le_refl _,blk_alloc_new rfl,rfl,thaw_00 _ _,Nat.le_refl _⟩⟩
    have ha6 : blk (w6.alloc (.cells #[] 5)) w6.heap.size = some (#[],5,(0,0)) := blk_alloc_new rfl
    generalize w6.alloc (.cells #[] 5) = w7 at *
    have hz6 := hE6.size
    have hz7 := hE7.size
    have hz05 := hE05.size
    have hd7 : BytesV AnyB w7 _ Dd := BytesV.keep (hd.weaken (ok' := AnyB) fun _ _ _ => trivial) (Ext.keeps (hE06.trans hE7) _)
    have hb7 : BytesV (fun b => b < w6.heap.size) w7 _ (partS 4 fs_Q ver (flexB 0 ver) t) := BytesV.keep ((Own.bytes (ok := AnyB) ho5 fun _ _ => trivial).weaken fun b hb _ => by omega) (Ext.keeps (hE6.trans hE7) _)
    have hr7 : BytesV (fun b => b < w6.heap.size) w7 _ (Dd ++ (partS 4 fs_Q ver (flexB 0 ver) t)) := BytesV.keep ((Own.bytes (ok := AnyB) ho6 fun _ _ => trivial).weaken fun b hb _ => hb) (Ext.keeps hE7 _)
    refine wp_append ap_22_22 (B := w6.heap.size) (n := 0) (cs := []) (m := Dd.length) (news := Dd.map byteV) (v := .slice (some ⟨w6.heap.size,0,none⟩) 0 0) (u := .slice da Dd.length dc) (by first | rfl | simp (maxSteps:=1000000)(disch:=(first|omega|(simp only [qI,qJ,qK]<;>omega)|exact qL _)) only [go_sem,↓reduceIte,n0,reduceCtorEq,n1,n2,n3,n4,n5,i0,i1,i2,i3,i4,i5,i6,i7]) (by first | rfl | simp (maxSteps:=1000000)(disch:=(first|omega|(simp only [qI,qJ,qK]<;>omega)|exact qL _)) only [go_sem,↓reduceIte,n0,reduceCtorEq,n1,n2,n3,n4,n5,i0,i1,i2,i3,i4,i5,i6,i7]) ho7 rfl hd7.src (by omega) (by omega) ?_
    intro v8 w8 h8 hU8 hf8
    rw [Nat.zero_add,List.nil_append] at h8
    have hz8 := hU8.size
    have hn7 : ∀ b,ownB (.slice (some ⟨w6.heap.size,0,none⟩) 0 0) b → b = w6.heap.size := fun b h => ownB_row h
    have hE8 : Ext w w8 := (hE06.trans hE7).more hU8 fun b hb h => by have := hn7 b h;have := hE06.size;omega
    have hb8 := hb7.keep (hU8.keeps fun b _ hk h => by have := hn7 b h;omega)
    have hr8 := hr7.keep (hU8.keeps fun b _ hk h => by have := hn7 b h;omega)
    obtain ⟨a8,c8,rfl,_⟩ := h8.shape
    simp (maxSteps:=1000000)(disch:=(first|omega|(simp only [qI,qJ,qK]<;>omega)|exact qL _)) only [go_sem,↓reduceIte,n0,reduceCtorEq,n1,n2,n3,n4,n5,i0,i1,i2,i3,i4,i5,i6,i7]
    refine wp_append ap_22_22 (B := w6.heap.size) (n := Dd.length) (cs := Dd.map byteV) (m := (partS 4 fs_Q ver (flexB 0 ver) t).length) (news := (partS 4 fs_Q ver (flexB 0 ver) t).map byteV) (v := .slice a8 Dd.length c8) (u := .slice a5 _ c5) (by first | rfl | simp (maxSteps:=1000000)(disch:=(first|omega|(simp only [qI,qJ,qK]<;>omega)|exact qL _)) only [go_sem,↓reduceIte,n0,reduceCtorEq,n1,n2,n3,n4,n5,i0,i1,i2,i3,i4,i5,i6,i7]) (by first | rfl | simp (maxSteps:=1000000)(disch:=(first|omega|(simp only [qI,qJ,qK]<;>omega)|exact qL _)) only [go_sem,↓reduceIte,n0,reduceCtorEq,n1,n2,n3,n4,n5,i0,i1,i2,i3,i4,i5,i6,i7]) h8 (flat_bytes _) hb8.src (by omega) (by omega) ?_
    intro v9 w9 h9 hU9 hf9
    rw [← List.map_append,← List.length_append] at h9
    have hn8 : ∀ b,ownB (.slice a8 Dd.length c8) b → w6.heap.size ≤ b := fun b h => by
      rcases hf8 b h with h | h
      · have := hn7 b h;omega
      · omega
    have hE9 : Ext w w9 := hE8.more hU9 fun b hb h => by have := hn8 b h;have := hE06.size;omega
    have hr9 := hr8.keep (hU9.keeps fun b _ hk h => by have := hn8 b h;omega)
    obtain ⟨a9,c9,rfl,_⟩ := h9.shape
    simp (maxSteps:=1000000)(disch:=(first|omega|(simp only [qI,qJ,qK]<;>omega)|exact qL _)) only [go_sem,↓reduceIte,n0,reduceCtorEq,n1,n2,n3,n4,n5,i0,i1,i2,i3,i4,i5,i6,i7]
    refine (Same_fn (ok := AnyB) (Dd ++ (partS 4 fs_Q ver (flexB 0 ver) t)) (Dd ++ (partS 4 fs_Q ver (flexB 0 ver) t)) _ _ w9 (hr9.weaken fun _ _ _ => trivial) (Own.bytes h9 fun _ _ => trivial) (by rw [List.length_append];omega)).mono ?_
    rintro _ w10 ⟨rfl,hE10⟩
    repeat (first|simp (maxSteps:=1000000)(disch:=(first|omega|(simp only [qI,qJ,qK]<;>omega)|exact qL _)) only [go_sem,↓reduceIte,n0,reduceCtorEq,n1,n2,n3,n4,n5,i0,i1,i2,i3,i4,i5,i6,i7]|refine qA rfl ?_|apply qB|refine qC rfl ?_|apply qD|apply qE|apply qF|apply qG|apply qH)
    all_goals exact hE9.trans hE10

end Ms

