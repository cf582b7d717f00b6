/- A part of the proof: see the last text. -/
import Derived.Test.YtmlpaobpdmgcgaaDoorC05
import Derived.Test.YtmlpaobpdmgcgaaDoorC06
import Derived.Test.YtmlpaobpdmgcgaaDoorC09
import Derived.Test.YtmlpaobpdmgcgaaDoorC11
import Derived.Test.YtmlpaobpdmgcgaaDoorInitProducerIDRequestP0
set_option linter.unusedSimpArgs false
set_option linter.unusedVariables false
namespace Ms
open Go.World renaming size_alloc → qI
open Ms renaming size_wr → qJ,size_drew → qK,not_noB → qL
open W renaming seqR → qA,seq → qB,regR → qC,condK → qD,block → qE,skip → qF,ret → qG,exit → qH
open Nat renaming reduceEqDiff → n0,reduceAdd → n1,reduceMul → n2,reduceSub → n3,reduceLT → n4,reduceLeDiff → n5
open Int renaming reduceEq → i0,reduceLT → i1,reduceLE → i2,reduceNeg → i3,reduceAdd → i4,reduceSub → i5,reduceMul → i6,reduceToNat → i7
set_option maxRecDepth 8000
open Go Go.Proofs Go.Shelf
attribute [local congr] W_congr WPsq_congr WPp_congr optK_congr addrK_congr intK_congr boolK_congr sliceK_congr tupleK_congr funcK_congr Fn_congr rawK_congr takeK_congr stepK_congr convK_congr aggK_congr

set_option maxHeartbeats 4000000 in
theorem DefSetInitProducerIDRequest_fn {d : Nat} {ok : Blocks} {ver : Int} (t : Tree) (cells : List Value) (w : World) {vb : Nat} (hb : blk w vb = some ((.int .i16 ver :: cells).toArray,99,(0,0))) (hok : ∀ b,ok b → b ≠ vb) (hR : RepS true (d + 1) fs_InitProducerIDRequest ok w t cells) :
    Fn Tryd.prog 45 #[.pointer (some ⟨vb,0,none⟩)] w fun _ w' => (∃ cells',blk w' vb = some ((.int .i16 ver :: cells').toArray,99,(0,0)) ∧ RepS true (d + 1) fs_InitProducerIDRequest ok w' (setDf fs_InitProducerIDRequest t) cells') ∧ Upd (fun b => b = vb) w w' := by
  obtain ⟨cs0,q,hcs,hL,hT⟩ := hR.inv
  obtain ⟨c0,e0,rfl,h0,c1,e1,rfl,h1,c2,e2,rfl,h2,c3,e3,rfl,h3,rfl⟩ := hL
  replace h0 : RepF (RepS true d) (szS true d) fInitProducerIDRequest_0 ok w (t.at 0) c0 := h0
  replace h1 : RepF (RepS true d) (szS true d) fInitProducerIDRequest_1 ok w (t.at 1) c1 := h1
  replace h2 : RepF (RepS true d) (szS true d) fInitProducerIDRequest_2 ok w (t.at 2) c2 := h2
  replace h3 : RepF (RepS true d) (szS true d) fInitProducerIDRequest_3 ok w (t.at 3) c3 := h3
  obtain ⟨p0,rfl,hp0⟩ := (RepF_ptr rfl (by decide)).1 h0
  obtain rfl := (RepF_num (by decide)).1 h1
  obtain rfl := (RepF_num (by decide)).1 h2
  obtain rfl := (RepF_num (by decide)).1 h3
  obtain ⟨qm,rfl⟩ := hT.shape
  subst hcs
  have hvl := blk_lt hb
  simp only [List.append_eq,List.cons_append,List.nil_append,List.append_nil] at hb
  refine (DefaultInitProducerIDRequest_fn w hb).mono ?_
  rintro _ w' ⟨hb',hU⟩
  have hK : Keeps ok w w' := hU.keeps fun b _ hk e => hok b hk e
  refine ⟨⟨[p0,.int .i32 (IntKind.i32.wrap (t.at 1).n),.int .i64 (-1 : Int),.int .i16 (IntKind.i16.wrap (-1 : Int))] ++ [.map qm],hb',RepS.mk' (RepL.cons1 (show RepF (RepS true d) (szS true d) fInitProducerIDRequest_0 ok w' ((setDf fs_InitProducerIDRequest t).at 0) _ from ((RepF_lay fInitProducerIDRequest_0 fun _ => RepS_lay true d _).keep h0 hK)) (RepL.cons1 (show RepF (RepS true d) (szS true d) fInitProducerIDRequest_1 ok w' ((setDf fs_InitProducerIDRequest t).at 1) _ from ((RepF_lay fInitProducerIDRequest_1 fun _ => RepS_lay true d _).keep h1 hK)) (RepL.cons1 (show RepF (RepS true d) (szS true d) fInitProducerIDRequest_2 ok w' ((setDf fs_InitProducerIDRequest t).at 2) _ from ((RepF_num (by decide)).2 rfl)) (RepL.cons1 (show RepF (RepS true d) (szS true d) fInitProducerIDRequest_3 ok w' ((setDf fs_InitProducerIDRequest t).at 3) _ from ((RepF_num (by decide)).2 rfl)) RepL.nil)))) (TagsM.keep hT hK)⟩,hU⟩

set_option maxHeartbeats 2000000 in
theorem DefDInitProducerIDRequest_fn {d : Nat} {ok : Blocks} {ev : Value} (ver : Nat) (hv : ver ≤ 5) (b : Value) (s : List UInt8) (w : World) (hb : BytesV ok w b s) (hG : Glo ev w) (hs : s.length ≤ 2 ^ 40) (fin : Tree × St) (hfin : fin = rdP (d + 1) ver (flexB 2 ver) fs_InitProducerIDRequest (some s)) (hst : fin.2 ≠ none) (hgood : GoodP (d + 1) fs_InitProducerIDRequest (setDf fs_InitProducerIDRequest fin.1)) :
    Fn Tryd.prog 18 #[.int .i64 ver,b] w fun r w' => (∃ c,r = .tuple #[.agg c.toArray,.bool true] ∧ TreeC AnyB w' (tlP (d + 1) fs_InitProducerIDRequest (setDf fs_InitProducerIDRequest fin.1)) c) ∧ Ext w w' := by
  obtain ⟨ba,bc,rfl,_⟩ := hb.shape
  have hgl := hG.lt
  have ew : IntKind.i16.wrap (ver : Int) = ver := i16_wrap (by omega)
  have hE0 : Ext w (w.alloc (.cells #[.int .i64 0,.slice none 0 0,.bool false,.slice none 0 0,.slice none 0 0] 37)) := Upd.alloc (Upd.refl _ _) _
  have hz0 : (w.alloc (.cells #[.int .i64 0,.slice none 0 0,.bool false,.slice none 0 0,.slice none 0 0] 37)).heap.size = w.heap.size + 1 := World.size_alloc _ _
  have hr0 : blk (w.alloc (.cells #[.int .i64 0,.slice none 0 0,.bool false,.slice none 0 0,.slice none 0 0] 37)) w.heap.size = some (#[.int .i64 0,.slice none 0 0,.bool false,.slice none 0 0,.slice none 0 0],37,(0,0)) := blk_alloc_new rfl
  refine fn_of_W Tryd.func18 rfl Tryd.results18 Tryd.ntmps18 rfl ?_
  repeat ((first | refine qA rfl ?_|refine qB ?_|refine qC rfl ?_|refine qD ?_|refine qE ?_|refine qF ?_|refine qG ?_|refine qH ?_);try simp (maxSteps:=1000000)(disch:=(first|omega|(simp only [qI,qJ,qK]<;>omega)|exact qL _)) only [go_sem,↓reduceIte,n0,reduceCtorEq,n1,n2,n3,n4,n5,i0,i1,i2,i3,i4,i5,i6,i7,ew])
  generalize (w.alloc (.cells #[.int .i64 0,.slice none 0 0,.bool false,.slice none 0 0,.slice none 0 0] 37)) = w0 at *
  refine (NewPtrInitProducerIDRequest_fn w0).mono ?_
  rintro _ w1 ⟨rfl,hb1,hE1⟩
  have hz1 := blk_lt hb1
  repeat ((first | refine qA rfl ?_|refine qB ?_|refine qC rfl ?_|refine qD ?_|refine qE ?_|refine qF ?_|refine qG ?_|refine qH ?_);try simp (maxSteps:=1000000)(disch:=(first|omega|(simp only [qI,qJ,qK]<;>omega)|exact qL _)) only [go_sem,↓reduceIte,n0,reduceCtorEq,n1,n2,n3,n4,n5,i0,i1,i2,i3,i4,i5,i6,i7,ew])
  refine (SetVersionInitProducerIDRequest_fn w1 (vb := w0.heap.size) ver hb1).mono ?_
  rintro _ w2 ⟨hb2,hU2⟩
  have hz2 := hU2.size
  have hE2 : Ext w0 w2 := hE1.more hU2 fun b hb h => by omega
  repeat ((first | refine qA rfl ?_|refine qB ?_|refine qC rfl ?_|refine qD ?_|refine qE ?_|refine qF ?_|refine qG ?_|refine qH ?_);try simp (maxSteps:=1000000)(disch:=(first|omega|(simp only [qI,qJ,qK]<;>omega)|exact qL _)) only [go_sem,↓reduceIte,n0,reduceCtorEq,n1,n2,n3,n4,n5,i0,i1,i2,i3,i4,i5,i6,i7,ew])
  refine wp_copyN ap_22_22 (ok := ok) (s := s) (v := .slice ba _ bc) (by first | rfl | simp (maxSteps:=1000000)(disch:=(first|omega|(simp only [qI,qJ,qK]<;>omega)|exact qL _)) only [go_sem,↓reduceIte,n0,reduceCtorEq,n1,n2,n3,n4,n5,i0,i1,i2,i3,i4,i5,i6,i7]) (by first | rfl | simp (maxSteps:=1000000)(disch:=(first|omega|(simp only [qI,qJ,qK]<;>omega)|exact qL _)) only [go_sem,↓reduceIte,n0,reduceCtorEq,n1,n2,n3,n4,n5,i0,i1,i2,i3,i4,i5,i6,i7]) (hb.keep (Ext.keeps (hE0.trans hE2) _)) (by omega) ?_
  intro v3 w3 ho3 hE3 hf3
  have hz3 := hE3.size
  have hb3 := hE3.blk_some hb2 id
  have hE03 : Ext w0 w3 := hE2.trans hE3
  have hG3 : Glo ev w3 := hG.updS (hE0.trans hE03) id id
  obtain ⟨a3,c3,rfl,_⟩ := ho3.shape
  try simp (maxSteps:=1000000)(disch:=(first|omega|(simp only [qI,qJ,qK]<;>omega)|exact qL _)) only [go_sem,↓reduceIte,n0,reduceCtorEq,n1,n2,n3,n4,n5,i0,i1,i2,i3,i4,i5,i6,i7]
  refine (ReadFromInitProducerIDRequest_fn (d := d) (ok := fun b => b < w3.heap.size ∧ b ≠ w0.heap.size) (ev := ev) (ver := ver) (by omega) (by omega) w3 _ _ hb3 ((Own.bytes ho3 hf3).weaken fun b hb hk => ⟨hb,by omega⟩) (fun b hb => hb) hG3 ⟨by omega,by omega⟩).mono ?_
  rw [← hfin]
  rintro r4 w4 ⟨h4n,h4s,hU4⟩
  have hz4 := hU4.size
  have hE4 : Ext w0 w4 := hE03.more hU4 fun b hb h => by omega
  have hr4 := hE4.blk_some hr0 id
  obtain ⟨rfl,cells,hb4,hR4⟩ := h4s hst
  try simp (maxSteps:=1000000)(disch:=(first|omega|(simp only [qI,qJ,qK]<;>omega)|exact qL _)) only [go_sem,↓reduceIte,n0,reduceCtorEq,n1,n2,n3,n4,n5,i0,i1,i2,i3,i4,i5,i6,i7,hr4]
  repeat ((first | refine qA rfl ?_|refine qB ?_|refine qC rfl ?_|refine qD ?_|refine qE ?_|refine qF ?_|refine qG ?_|refine qH ?_);try simp (maxSteps:=1000000)(disch:=(first|omega|(simp only [qI,qJ,qK]<;>omega)|exact qL _)) only [go_sem,↓reduceIte,n0,reduceCtorEq,n1,n2,n3,n4,n5,i0,i1,i2,i3,i4,i5,i6,i7,hr4])
  have hok4 : ∀ b,okN (fun b => b < w3.heap.size ∧ b ≠ w0.heap.size) w3.heap.size b → b ≠ w0.heap.size := fun b hb => by
    rcases hb with hb | hb
    · exact hb.2
    · omega
  refine (DefSetInitProducerIDRequest_fn (d := d) fin.1 cells w4 hb4 hok4 hR4).mono ?_
  rintro _ w5 ⟨⟨cells5,hb5,hR5⟩,hU5⟩
  have hz5 := hU5.size
  have hE5 : Ext w0 w5 := hE4.more hU5 fun b hb h => by omega
  have hr5 := hE5.blk_some hr0 id
  try simp (maxSteps:=1000000)(disch:=(first|omega|(simp only [qI,qJ,qK]<;>omega)|exact qL _)) only [go_sem,↓reduceIte,n0,reduceCtorEq,n1,n2,n3,n4,n5,i0,i1,i2,i3,i4,i5,i6,i7,hr5]
  repeat ((first | refine qA rfl ?_|refine qB ?_|refine qC rfl ?_|refine qD ?_|refine qE ?_|refine qF ?_|refine qG ?_|refine qH ?_);try simp (maxSteps:=1000000)(disch:=(first|omega|(simp only [qI,qJ,qK]<;>omega)|exact qL _)) only [go_sem,↓reduceIte,n0,reduceCtorEq,n1,n2,n3,n4,n5,i0,i1,i2,i3,i4,i5,i6,i7,hr5])
  have hcl := (RepS_lay true (d + 1) fs_InitProducerIDRequest).flat hR5
  refine (tellInitProducerIDRequest_fn (d := d) (setDf fs_InitProducerIDRequest fin.1) cells5 w5 hb5 (fun k hk => by show ((.int .i16 (ver : Int) :: cells5).toArray)[1 + k]? = cells5[k]?;rw [List.getElem?_toArray,Nat.add_comm,List.getElem?_cons_succ]) hR5 hgood).mono ?_
  rintro _ w6 ⟨⟨c6,rfl,hc6⟩,hE6⟩
  obtain ⟨vS,vL,vU,rfl,hn6,hS6,hL6,hU6⟩ := hc6.inv
  have f1 := hS6.flat
  have f2 := SlR.flat hL6
  have f3 := SlR.flat hU6
  have hr6 := hE6.blk_some hr5 id
  try simp (maxSteps:=1000000)(disch:=(first|omega|(simp only [qI,qJ,qK]<;>omega)|exact qL _)) only [go_sem,↓reduceIte,n0,reduceCtorEq,n1,n2,n3,n4,n5,i0,i1,i2,i3,i4,i5,i6,i7,hr6,f1,f2,f3]
  repeat ((first | refine qA rfl ?_|refine qB ?_|refine qC rfl ?_|refine qD ?_|refine qE ?_|refine qF ?_|refine qG ?_|refine qH ?_);try simp (maxSteps:=1000000)(disch:=(first|omega|(simp only [qI,qJ,qK]<;>omega)|exact qL _)) only [go_sem,↓reduceIte,n0,reduceCtorEq,n1,n2,n3,n4,n5,i0,i1,i2,i3,i4,i5,i6,i7,hr6,f1,f2,f3,cellsAt_five])
  have hUw : Upd (fun b => b = w.heap.size) w6 (wr w6 w.heap.size 0 [.int .i64 (tlP (d + 1) fs_InitProducerIDRequest (setDf fs_InitProducerIDRequest fin.1)).n,vS,.bool (tlP (d + 1) fs_InitProducerIDRequest (setDf fs_InitProducerIDRequest fin.1)).null,vL,vU]) := (Upd.refl _ _).wr _ _ (.inr rfl)
  refine ⟨⟨_,rfl,TreeC.weaken (fun _ _ _ => trivial) (TreeC.keep (hUw.keeps (ok := fun b => w5.heap.size ≤ b) fun b _ hk e => by have hk' : w5.heap.size ≤ b := hk;omega) hc6)⟩,(hE0.trans (hE5.trans hE6)).wr _ _ (.inl (Nat.le_refl _))⟩
end Ms

namespace Ms
open Go.World renaming size_alloc → qI
open Ms renaming size_wr → qJ,size_drew → qK,not_noB → qL
open W renaming seqR → qA,seq → qB,regR → qC,condK → qD,block → qE,skip → qF,ret → qG,exit → qH
open Nat renaming reduceEqDiff → n0,reduceAdd → n1,reduceMul → n2,reduceSub → n3,reduceLT → n4,reduceLeDiff → n5
open Int renaming reduceEq → i0,reduceLT → i1,reduceLE → i2,reduceNeg → i3,reduceAdd → i4,reduceSub → i5,reduceMul → i6,reduceToNat → i7
set_option maxRecDepth 8000
open Go Go.Proofs Go.Shelf
attribute [local congr] W_congr WPsq_congr WPp_congr optK_congr addrK_congr intK_congr boolK_congr sliceK_congr tupleK_congr funcK_congr Fn_congr rawK_congr takeK_congr stepK_congr convK_congr aggK_congr

set_option maxHeartbeats 4000000 in
theorem law_DefaultInitProducerIDRequest {ok : Blocks} {ev : Value} (n : Nat) (hn : n < 256) (t : Tree) (ct : List Value) (w : World) (ht : TreeC ok w t ct) (hsm : Small 4611686018427387903 t) (hG : Glo ev w) (hev : ∃ T p,ev = .iface T p) {N : Nat} (hN : N ≤ 1048576) (hsz : Sized N t) :
    Fn Tryd.prog 4 #[.int .u8 n,.agg ct.toArray] w fun r w' => r = .bool true ∧ Ext w w' := by
  have hn64 := TreeC.n64 ht
  obtain ⟨vS,vL,vU,rfl,hn',hS,hL,hU⟩ := ht.inv
  have f1 := hS.flat
  have f2 := SlR.flat hL
  have f3 := SlR.flat hU
  have hE : Ext w (w.alloc (.cells #[.int .i64 t.n,vS,.bool t.null,vL,vU] 26)) := Upd.alloc (Upd.refl _ _) _
  refine fn_of_W Tryd.func4 rfl Tryd.results4 Tryd.ntmps4 rfl ?_
  repeat ((first | refine qA rfl ?_|refine qB ?_|refine qC rfl ?_|refine qD ?_|refine qE ?_|refine qF ?_|refine qG ?_|refine qH ?_);try simp (maxSteps:=1000000)(disch:=(first|omega|(simp only [qI,qJ,qK]<;>omega)|exact qL _)) only [go_sem,↓reduceIte,n0,reduceCtorEq,n1,n2,n3,n4,n5,i0,i1,i2,i3,i4,i5,i6,i7,f1,f2,f3,cellsAt_five])
  have hb : blk (w.alloc (.cells #[.int .i64 t.n,vS,.bool t.null,vL,vU] 26)) w.heap.size = some (#[.int .i64 t.n,vS,.bool t.null,vL,vU],26,(0,0)) := blk_alloc_new rfl
  generalize (w.alloc (.cells #[.int .i64 t.n,vS,.bool t.null,vL,vU] 26)) = w1 at *
  refine (zzFits1_fn (ok := ok) t _ w1 (ht.keep (hE.keeps _)) hsm).mono ?_
  rintro r2 w2 ⟨⟨bb,rfl⟩,hE2⟩
  cases bb with
  | false =>
    simp (maxSteps:=1000000)(disch:=(first|omega|(simp only [qI,qJ,qK]<;>omega)|exact qL _)) only [go_sem,↓reduceIte,n0,reduceCtorEq,n1,n2,n3,n4,n5,i0,i1,i2,i3,i4,i5,i6,i7]
    repeat ((first | refine qA rfl ?_|refine qB ?_|refine qC rfl ?_|refine qD ?_|refine qE ?_|refine qF ?_|refine qG ?_|refine qH ?_);try simp (maxSteps:=1000000)(disch:=(first|omega|(simp only [qI,qJ,qK]<;>omega)|exact qL _)) only [go_sem,↓reduceIte,n0,reduceCtorEq,n1,n2,n3,n4,n5,i0,i1,i2,i3,i4,i5,i6,i7])
    all_goals exact hE.trans hE2
  | true =>
    simp (maxSteps:=1000000)(disch:=(first|omega|(simp only [qI,qJ,qK]<;>omega)|exact qL _)) only [go_sem,↓reduceIte,n0,reduceCtorEq,n1,n2,n3,n4,n5,i0,i1,i2,i3,i4,i5,i6,i7]
    repeat ((first | refine qA rfl ?_|refine qB ?_|refine qC rfl ?_|refine qD ?_|refine qE ?_|refine qF ?_|refine qG ?_|refine qH ?_);try simp (maxSteps:=1000000)(disch:=(first|omega|(simp only [qI,qJ,qK]<;>omega)|exact qL _)) only [go_sem,↓reduceIte,n0,reduceCtorEq,n1,n2,n3,n4,n5,i0,i1,i2,i3,i4,i5,i6,i7])
    refine (MaxInitProducerIDRequest_fn w2).mono ?_
    rintro _ w2m ⟨rfl,hE2m⟩
    repeat ((first | refine qA rfl ?_|refine qB ?_|refine qC rfl ?_|refine qD ?_|refine qE ?_|refine qF ?_|refine qG ?_|refine qH ?_);try simp (maxSteps:=1000000)(disch:=(first|omega|(simp only [qI,qJ,qK]<;>omega)|exact qL _)) only [go_sem,↓reduceIte,n0,reduceCtorEq,n1,n2,n3,n4,n5,i0,i1,i2,i3,i4,i5,i6,i7])
    refine (cInitProducerIDRequest_fn w2m).mono ?_
    rintro r3 w3 ⟨⟨vs,rfl,hF0⟩,hE3⟩
    have hF : FldsV AnyB w3 vs fs_InitProducerIDRequest := hF0.weaken fun _ _ _ => trivial
    have fF := SlR.flat hF
    try simp (maxSteps:=1000000)(disch:=(first|omega|(simp only [qI,qJ,qK]<;>omega)|exact qL _)) only [go_sem,↓reduceIte,n0,reduceCtorEq,n1,n2,n3,n4,n5,i0,i1,i2,i3,i4,i5,i6,i7]
    refine (version_fn w3 n 5 hn (by decide)).mono ?_
    rintro _ w3v ⟨rfl,rfl⟩
    have hE03 : Ext w w3v := ((hE.trans hE2).trans hE2m).trans hE3
    have hb3 := hE3.blk_some (hE2m.blk_some (hE2.blk_some hb id) id) id
    have hE4 : Ext w3v (wr (w3v.alloc (.cells #[.slice none 0 0,.int .i64 0] 31)) w3v.heap.size 0 [vs,.int .i64 2]) := (Upd.alloc (Upd.refl _ _) _).wr _ _ (.inl (Nat.le_refl _))
    have hb4 : blk (wr (w3v.alloc (.cells #[.slice none 0 0,.int .i64 0] 31)) w3v.heap.size 0 [vs,.int .i64 2]) w3v.heap.size = some (#[vs,.int .i64 2],31,(0,0)) := by simp (maxSteps:=1000000)(disch:=(first|omega|(simp only [qI,qJ,qK]<;>omega)|exact qL _)) only [go_sem,↓reduceIte,n0,reduceCtorEq,n1,n2,n3,n4,n5,i0,i1,i2,i3,i4,i5,i6,i7]
    try simp (maxSteps:=1000000)(disch:=(first|omega|(simp only [qI,qJ,qK]<;>omega)|exact qL _)) only [go_sem,↓reduceIte,n0,reduceCtorEq,n1,n2,n3,n4,n5,i0,i1,i2,i3,i4,i5,i6,i7,fF]
    generalize (wr (w3v.alloc (.cells #[.slice none 0 0,.int .i64 0] 31)) w3v.heap.size 0 [vs,.int .i64 2]) = w4 at *
    have hb34 := hE4.blk_some hb3 id
    have hv3 : n % 6 < 6 := Nat.mod_lt _ (by omega)
    generalize n % 6 = ver at *
    have hs1 := blk_lt hb4
    have hs2 := blk_lt hb34
    repeat ((first | refine qA rfl ?_|refine qB ?_|refine qC rfl ?_|refine qD ?_|refine qE ?_|refine qF ?_|refine qG ?_|refine qH ?_);try simp (maxSteps:=1000000)(disch:=(first|omega|(simp only [qI,qJ,qK]<;>omega)|exact qL _)) only [go_sem,↓reduceIte,n0,reduceCtorEq,n1,n2,n3,n4,n5,i0,i1,i2,i3,i4,i5,i6,i7,hb34,hb4,cellsAt_five,cellsAt_two])
    have hE04 : Ext w w4 := hE03.trans hE4
    have hokF : okF 1 fs_InitProducerIDRequest = true := by decide
    have hokM : okM 1 fs_InitProducerIDRequest = true := by decide
    have hokR : okR 1 ver (flexB 2 ver) fs_InitProducerIDRequest = true := (by decide : ∀ v : Fin 6,okR 1 ((v.val : Nat) : Int) (flexB 2 ((v.val : Nat) : Int)) fs_InitProducerIDRequest = true) ⟨ver,hv3⟩
    have hokT : okTs 1 fs_InitProducerIDRequest = true := by decide
    have hdf : okDf (1 + 1) fs_InitProducerIDRequest = true := by decide
    have hpl : (partS 2 fs_InitProducerIDRequest ver (flexB 2 ver) t).length ≤ 2 ^ 40 := Nat.le_trans (partS_bound ver _ 1 fs_InitProducerIDRequest N t hokM hsz) (Nat.le_trans (Nat.mul_le_mul_left _ (Nat.succ_le_succ hN)) (by decide))
    refine (Write_fn (ok := AnyB) (d := 1) fs_InitProducerIDRequest 2 ver t vs _ w4 (hF.keep (Ext.keeps hE4 _)) hokF ((ht.weaken fun _ _ _ => trivial).keep (Ext.keeps hE04 _)) hsm hpl).mono ?_
    rintro r5 w5 ⟨ho5,hE5⟩
    have hE05 := hE04.trans hE5
    obtain ⟨a5,c5,rfl,_⟩ := ho5.shape
    repeat ((first | refine qA rfl ?_|refine qB ?_|refine qC rfl ?_|refine qD ?_|refine qE ?_|refine qF ?_|refine qG ?_|refine qH ?_);try simp (maxSteps:=1000000)(disch:=(first|omega|(simp only [qI,qJ,qK]<;>omega)|exact qL _)) only [go_sem,↓reduceIte,n0,reduceCtorEq,n1,n2,n3,n4,n5,i0,i1,i2,i3,i4,i5,i6,i7])
    have hrd := (rdP_part ver (flexB 2 ver) 1 fs_InitProducerIDRequest N t hokR hsz).1 []
    rw [List.append_nil] at hrd
    have hgood : GoodP (1 + 1) fs_InitProducerIDRequest (cnP 2 ver (flexB 2 ver) fs_InitProducerIDRequest t) := cnP_good ver _ _ _ _ hdf
    have hnum : okNum fs_InitProducerIDRequest = true := by decide
    have hgoodD : GoodP (1 + 1) fs_InitProducerIDRequest (setDf fs_InitProducerIDRequest (cnP 2 ver (flexB 2 ver) fs_InitProducerIDRequest t)) := setDf_good (d := 1) hnum hdf hgood
    refine (DefDInitProducerIDRequest_fn (d := 1) (ok := AnyB) (ev := ev) ver (by omega) _ _ w5 (Own.bytes (ok := AnyB) ho5 fun _ _ => trivial) (hG.updS hE05 id id) hpl ((cnP 2 ver (flexB 2 ver) fs_InitProducerIDRequest t),some []) hrd.symm (by simp) hgoodD).mono ?_
    rintro _ w6 ⟨⟨ca,rfl,hca⟩,hE6⟩
    simp only at hca
    have hsT : Small 32767 (tlP (1 + 1) fs_InitProducerIDRequest (setDf fs_InitProducerIDRequest (cnP 2 ver (flexB 2 ver) fs_InitProducerIDRequest t))) := tlP_small _ _ _ hdf hgoodD
    have htold : ∀ i (h : i < fs_InitProducerIDRequest.length),fs_InitProducerIDRequest[i].df = 0 ∨ ((tlP (1 + 1) fs_InitProducerIDRequest (setDf fs_InitProducerIDRequest (cnP 2 ver (flexB 2 ver) fs_InitProducerIDRequest t))).at i).n = numS fs_InitProducerIDRequest[i].kind fs_InitProducerIDRequest[i].df := defaults_told (d := 1) hnum
    generalize tlP (1 + 1) fs_InitProducerIDRequest (setDf fs_InitProducerIDRequest (cnP 2 ver (flexB 2 ver) fs_InitProducerIDRequest t)) = Ta at *
    have hE06 := hE05.trans hE6
    obtain ⟨aS,aL,aU,rfl,hna,hSa,hLa,hUa⟩ := hca.inv
    have g1 := hSa.flat
    have g2 := SlR.flat hLa
    have g3 := SlR.flat hUa
    have hE7 : Ext w6 (wr (w6.alloc (.cells #[.int .i64 0,.slice none 0 0,.bool false,.slice none 0 0,.slice none 0 0] 37)) w6.heap.size 0 [.int .i64 Ta.n,aS,.bool Ta.null,aL,aU]) := (Upd.alloc (Upd.refl _ _) _).wr _ _ (.inl (Nat.le_refl _))
    have hb7 : blk (wr (w6.alloc (.cells #[.int .i64 0,.slice none 0 0,.bool false,.slice none 0 0,.slice none 0 0] 37)) w6.heap.size 0 [.int .i64 Ta.n,aS,.bool Ta.null,aL,aU]) w6.heap.size = some (#[.int .i64 Ta.n,aS,.bool Ta.null,aL,aU],37,(0,0)) := by simp (maxSteps:=1000000)(disch:=(first|omega|(simp only [qI,qJ,qK]<;>omega)|exact qL _)) only [go_sem,↓reduceIte,n0,reduceCtorEq,n1,n2,n3,n4,n5,i0,i1,i2,i3,i4,i5,i6,i7]
    try simp (maxSteps:=1000000)(disch:=(first|omega|(simp only [qI,qJ,qK]<;>omega)|exact qL _)) only [go_sem,↓reduceIte,n0,reduceCtorEq,n1,n2,n3,n4,n5,i0,i1,i2,i3,i4,i5,i6,i7,g1,g2,g3]
    repeat ((first | refine qA rfl ?_|refine qB ?_|refine qC rfl ?_|refine qD ?_|refine qE ?_|refine qF ?_|refine qG ?_|refine qH ?_);try simp (maxSteps:=1000000)(disch:=(first|omega|(simp only [qI,qJ,qK]<;>omega)|exact qL _)) only [go_sem,↓reduceIte,n0,reduceCtorEq,n1,n2,n3,n4,n5,i0,i1,i2,i3,i4,i5,i6,i7,g1,g2,g3])
    generalize (wr (w6.alloc (.cells #[.int .i64 0,.slice none 0 0,.bool false,.slice none 0 0,.slice none 0 0] 37)) w6.heap.size 0 [.int .i64 Ta.n,aS,.bool Ta.null,aL,aU]) = w7 at *
    have hE47 := (hE5.trans hE6).trans hE7
    have hE07 := hE04.trans hE47
    have hb47 := hE47.blk_some hb4 id
    have l1 := blk_lt hb7
    have l2 := blk_lt hb47
    refine W.drawR (.take 0 (.take 1 (.take 2 (.take 3 (.take 4 (.only 5 (.only 6 (.take 7 (.only 8 .done))))))))) NoB mixed (by kernel_rfl) ?_
    try simp (maxSteps:=1000000)(disch:=(first|omega|(simp only [qI,qJ,qK]<;>omega)|exact qL _)) only [go_sem,↓reduceIte,n0,reduceCtorEq,n1,n2,n3,n4,n5,i0,i1,i2,i3,i4,i5,i6,i7,fF,g1,g2,g3,hb7,hb47,cellsAt_five,cellsAt_two]
    have hEd : Ext w7 w7.drew := (Upd.refl _ _).drew
    have hE0d := hE07.trans hEd
    have hE4d := hE47.trans hEd
    have hcad := (hca.keep (Ext.keeps hE7 _)).keep (Ext.keeps hEd _)
    generalize w7.drew = w8 at *
    refine (got_fn hsT.lists AnyB _ w8 hcad).mono ?_
    rintro _ w10 ⟨⟨c10,rfl,hc10⟩,hE10⟩
    try refine ⟨hE10,?_⟩
    try simp (maxSteps:=1000000)(disch:=(first|omega|(simp only [qI,qJ,qK]<;>omega)|exact qL _)) only [go_sem,↓reduceIte,n0,reduceCtorEq,n1,n2,n3,n4,n5,i0,i1,i2,i3,i4,i5,i6,i7]
    refine (Defaults_fn fs_InitProducerIDRequest Ta vs _ w10 (((hF.keep (Ext.keeps hE4 _)).keep (Ext.keeps hE4d _)).keep (Ext.keeps hE10 _)) (okF_len hokF) (hc10.weaken fun _ _ _ => trivial) (hsT.mono (by decide)) htold).mono ?_
    rintro _ w11 ⟨rfl,hE11⟩
    try refine ⟨hE10.trans hE11,?_⟩
    try simp (maxSteps:=1000000)(disch:=(first|omega|(simp only [qI,qJ,qK]<;>omega)|exact qL _)) only [go_sem,↓reduceIte,n0,reduceCtorEq,n1,n2,n3,n4,n5,i0,i1,i2,i3,i4,i5,i6,i7]
    try refine ⟨hE10.trans hE11,?_⟩
    repeat ((first | refine qA rfl ?_|refine qB ?_|refine qC rfl ?_|refine qD ?_|refine qE ?_|refine qF ?_|refine qG ?_|refine qH ?_);try simp (maxSteps:=1000000)(disch:=(first|omega|(simp only [qI,qJ,qK]<;>omega)|exact qL _)) only [go_sem,↓reduceIte,n0,reduceCtorEq,n1,n2,n3,n4,n5,i0,i1,i2,i3,i4,i5,i6,i7])
    all_goals exact hE0d.trans (hE10.trans hE11)
end Ms

