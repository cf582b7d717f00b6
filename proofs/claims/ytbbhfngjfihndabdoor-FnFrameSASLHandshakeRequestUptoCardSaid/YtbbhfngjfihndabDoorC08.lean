/- A part of the proof: see the last text. -/
import Derived.Test.YtbbhfngjfihndabDoorC03
import Derived.Test.YtbbhfngjfihndabDoorC05
import Derived.Test.YtbbhfngjfihndabDoorC07
set_option linter.unusedSimpArgs false
set_option linter.unusedVariables false
namespace Ms
open Go.World renaming size_alloc → qI
open Ms renaming size_wr → qJ,size_drew → qK,not_noB → qL
open W renaming seqR → qA,seq → qB,regR → qC,condK → qD,block → qE,skip → qF,ret → qG,exit → qH
open Nat renaming reduceEqDiff → n0,reduceAdd → n1,reduceMul → n2,reduceSub → n3,reduceLT → n4,reduceLeDiff → n5
open Int renaming reduceEq → i0,reduceLT → i1,reduceLE → i2,reduceNeg → i3,reduceAdd → i4,reduceSub → i5,reduceMul → i6,reduceToNat → i7
set_option maxRecDepth 8000
set_option maxHeartbeats 24000000
open Go Go.Proofs Go.Shelf
attribute [local congr] W_congr WPsq_congr WPp_congr optK_congr addrK_congr intK_congr boolK_congr sliceK_congr tupleK_congr funcK_congr Fn_congr rawK_congr takeK_congr stepK_congr convK_congr aggK_congr

theorem AppendRequest_fn {T : TypeId} {mp : Value} {B : Nat} {key ver : Int} {flex : Bool} {body : List UInt8} {Gd : World → Prop} (hR : ReqOk Tryd.prog 5 T mp B key ver flex body Gd) (hmp : flat mp = true) (w : World) (hG : Gd w) (hB : B ≤ w.heap.size) {ok : Blocks} {fp : Nat} {cid : Value} (hf : blk w fp = some (#[cid],94,(0,0))) (null : Bool) (x : List UInt8) (hp : PtrText ok w cid null x) (hx : x.length ≤ 32767) (hbl : body.length ≤ 2 ^ 40) (number : Int) (hkv : ¬ (key = 7 ∧ ver = 0)) :
    Fn Tryd.prog 35 #[.pointer (some ⟨fp,0,none⟩),.slice none 0 0,.iface T mp,.int .i32 number] w fun r w' => OwnBy 5 w.heap.size w' r (frameS key ver number null x flex body) ∧ Ext w w' := by
  obtain ⟨fK,mK,cK,hK⟩ := hR.key
  obtain ⟨fV,mV,cV,hV⟩ := hR.ver
  obtain ⟨fF,mF,cF,hF⟩ := hR.flex
  obtain ⟨fA,mA,cA,hA⟩ := hR.app
  refine fn_of_W Tryd.func35 rfl Tryd.results35 Tryd.ntmps35 rfl ?_
  repeat ((first | refine qA rfl ?_|refine qB ?_|refine qC rfl ?_|refine qD ?_|refine qE ?_|refine qF ?_|refine qG ?_|refine qH ?_);try simp (maxSteps:=1000000)(disch:=(first|omega|(simp only [qI,qJ,qK]<;>omega)|exact qL _)) only [go_sem,↓reduceIte,n0,reduceCtorEq,n1,n2,n3,n4,n5,i0,i1,i2,i3,i4,i5,i6,i7])
  try simp only [List.cons_append,List.nil_append,List.append_nil]
  have hE1 : Ext w (w.alloc (.cells #[.int .u8 0,.int .u8 0,.int .u8 0,.int .u8 0] 5)) := Upd.alloc (Upd.refl _ _) _
  have hs1 : Src (w.alloc (.cells #[.int .u8 0,.int .u8 0,.int .u8 0,.int .u8 0] 5)) 1 (.slice (some ⟨w.heap.size,0,none⟩) 4 4) 4 (([0,0,0,0] : List UInt8).map byteV) := Src.blk (fr := (0,0)) (T := 5) (blk_alloc_new rfl) rfl rfl
  generalize (w.alloc (.cells #[.int .u8 0,.int .u8 0,.int .u8 0,.int .u8 0] 5)) = w1 at *
  have hz1 := hE1.size
  refine wp_append ap_24_24 (B := w.heap.size) (n := 0) (cs := []) (m := 4) (news := ([0,0,0,0] : List UInt8).map byteV) (v := .slice none 0 0) (u := .slice (some ⟨w.heap.size,0,none⟩) 4 4) (by first | rfl | simp (maxSteps:=1000000)(disch:=(first|omega|(simp only [qI,qJ,qK]<;>omega)|exact qL _)) only [go_sem,↓reduceIte,n0,reduceCtorEq,n1,n2,n3,n4,n5,i0,i1,i2,i3,i4,i5,i6,i7]) (by first | rfl | simp (maxSteps:=1000000)(disch:=(first|omega|(simp only [qI,qJ,qK]<;>omega)|exact qL _)) only [go_sem,↓reduceIte,n0,reduceCtorEq,n1,n2,n3,n4,n5,i0,i1,i2,i3,i4,i5,i6,i7]) (Own.nil _ _ _ _) rfl hs1 hz1 (by omega) ?_
  intro v2 w2 h2 hU2 hf2
  have hE2 : Ext w w2 := hE1.more hU2 fun b hb h => by obtain ⟨a,n,c,h,_⟩ := h;cases h
  have ho2 : OwnBy 5 w.heap.size w2 v2 [0,0,0,0] := h2
  have hG2 := hR.keep _ _ hG (hE2.mono fun _ h => h.elim)
  obtain ⟨a2,c2,rfl,_⟩ := ho2.shape
  try simp (maxSteps:=1000000)(disch:=(first|omega|(simp only [qI,qJ,qK]<;>omega)|exact qL _)) only [go_sem,↓reduceIte,n0,reduceCtorEq,n1,n2,n3,n4,n5,i0,i1,i2,i3,i4,i5,i6,i7]
  repeat ((first | refine qA rfl ?_|refine qB ?_|refine qC rfl ?_|refine qD ?_|refine qE ?_|refine qF ?_|refine qG ?_|refine qH ?_);try simp (maxSteps:=1000000)(disch:=(first|omega|(simp only [qI,qJ,qK]<;>omega)|exact qL _)) only [go_sem,↓reduceIte,n0,reduceCtorEq,n1,n2,n3,n4,n5,i0,i1,i2,i3,i4,i5,i6,i7,↓step_invoke])
  refine wp_invoke (by first | rfl | simp (maxSteps:=1000000)(disch:=(first|omega|(simp only [qI,qJ,qK]<;>omega)|exact qL _)) only [go_sem,↓reduceIte,n0,reduceCtorEq,n1,n2,n3,n4,n5,i0,i1,i2,i3,i4,i5,i6,i7]) mK hR.recv cK ?_
  try simp (maxSteps:=1000000)(disch:=(first|omega|(simp only [qI,qJ,qK]<;>omega)|exact qL _)) only [go_sem,↓reduceIte,n0,reduceCtorEq,n1,n2,n3,n4,n5,i0,i1,i2,i3,i4,i5,i6,i7]
  refine (hK w2 hG2).mono ?_
  rintro _ wq ⟨rfl,hwq⟩
  obtain rfl := hwq.symm
  try simp (maxSteps:=1000000)(disch:=(first|omega|(simp only [qI,qJ,qK]<;>omega)|exact qL _)) only [go_sem,↓reduceIte,n0,reduceCtorEq,n1,n2,n3,n4,n5,i0,i1,i2,i3,i4,i5,i6,i7]
  repeat ((first | refine qA rfl ?_|refine qB ?_|refine qC rfl ?_|refine qD ?_|refine qE ?_|refine qF ?_|refine qG ?_|refine qH ?_);try simp (maxSteps:=1000000)(disch:=(first|omega|(simp only [qI,qJ,qK]<;>omega)|exact qL _)) only [go_sem,↓reduceIte,n0,reduceCtorEq,n1,n2,n3,n4,n5,i0,i1,i2,i3,i4,i5,i6,i7,↓step_invoke])
  refine wp_invoke (by first | rfl | simp (maxSteps:=1000000)(disch:=(first|omega|(simp only [qI,qJ,qK]<;>omega)|exact qL _)) only [go_sem,↓reduceIte,n0,reduceCtorEq,n1,n2,n3,n4,n5,i0,i1,i2,i3,i4,i5,i6,i7]) mV hR.recv cV ?_
  try simp (maxSteps:=1000000)(disch:=(first|omega|(simp only [qI,qJ,qK]<;>omega)|exact qL _)) only [go_sem,↓reduceIte,n0,reduceCtorEq,n1,n2,n3,n4,n5,i0,i1,i2,i3,i4,i5,i6,i7]
  refine (hV w2 hG2).mono ?_
  rintro _ wq ⟨rfl,hwq⟩
  obtain rfl := hwq.symm
  try simp (maxSteps:=1000000)(disch:=(first|omega|(simp only [qI,qJ,qK]<;>omega)|exact qL _)) only [go_sem,↓reduceIte,n0,reduceCtorEq,n1,n2,n3,n4,n5,i0,i1,i2,i3,i4,i5,i6,i7]
  repeat ((first | refine qA rfl ?_|refine qB ?_|refine qC rfl ?_|refine qD ?_|refine qE ?_|refine qF ?_|refine qG ?_|refine qH ?_);try simp (maxSteps:=1000000)(disch:=(first|omega|(simp only [qI,qJ,qK]<;>omega)|exact qL _)) only [go_sem,↓reduceIte,n0,reduceCtorEq,n1,n2,n3,n4,n5,i0,i1,i2,i3,i4,i5,i6,i7,↓step_invoke])
  have hlen0 : ([0,0,0,0] : List UInt8).length = 4 := rfl
  refine (AppendInt16_fn _ _ w2 ho2 (by have := hE2.size;omega) key (by simp)).mono ?_
  rintro r3 w3 h3
  have hU3' : Upd (fun b => w.heap.size ≤ b) w2 w3 := h3.upd.mono fun b h => Own.above ho2 h
  have hE3 : Ext w w3 := hE2.more hU3' fun b hb h => by omega
  have hG3 := hR.keep _ _ hG2 (hU3'.mono fun b h => by omega)
  have ho3 := h3.own
  have hz3 := hE3.size
  obtain ⟨a3,c3,rfl,_⟩ := Own.shape ho3
  try simp (maxSteps:=1000000)(disch:=(first|omega|(simp only [qI,qJ,qK]<;>omega)|exact qL _)) only [go_sem,↓reduceIte,n0,reduceCtorEq,n1,n2,n3,n4,n5,i0,i1,i2,i3,i4,i5,i6,i7]
  repeat ((first | refine qA rfl ?_|refine qB ?_|refine qC rfl ?_|refine qD ?_|refine qE ?_|refine qF ?_|refine qG ?_|refine qH ?_);try simp (maxSteps:=1000000)(disch:=(first|omega|(simp only [qI,qJ,qK]<;>omega)|exact qL _)) only [go_sem,↓reduceIte,n0,reduceCtorEq,n1,n2,n3,n4,n5,i0,i1,i2,i3,i4,i5,i6,i7,↓step_invoke])
  refine (AppendInt16_fn _ _ w3 ho3 hz3 ver (by simp only [List.length_append,fixedS_len,hlen0];omega)).mono ?_
  rintro r4 w4 h4
  have hU4' : Upd (fun b => w.heap.size ≤ b) w3 w4 := h4.upd.mono fun b h => Own.above ho3 h
  have hE4 : Ext w w4 := hE3.more hU4' fun b hb h => by omega
  have hG4 := hR.keep _ _ hG3 (hU4'.mono fun b h => by omega)
  have ho4 := h4.own
  have hz4 := hE4.size
  obtain ⟨a4,c4,rfl,_⟩ := Own.shape ho4
  try simp (maxSteps:=1000000)(disch:=(first|omega|(simp only [qI,qJ,qK]<;>omega)|exact qL _)) only [go_sem,↓reduceIte,n0,reduceCtorEq,n1,n2,n3,n4,n5,i0,i1,i2,i3,i4,i5,i6,i7]
  repeat ((first | refine qA rfl ?_|refine qB ?_|refine qC rfl ?_|refine qD ?_|refine qE ?_|refine qF ?_|refine qG ?_|refine qH ?_);try simp (maxSteps:=1000000)(disch:=(first|omega|(simp only [qI,qJ,qK]<;>omega)|exact qL _)) only [go_sem,↓reduceIte,n0,reduceCtorEq,n1,n2,n3,n4,n5,i0,i1,i2,i3,i4,i5,i6,i7,↓step_invoke])
  refine (AppendInt32_fn _ _ w4 ho4 hz4 number (by simp only [List.length_append,fixedS_len,hlen0];omega)).mono ?_
  rintro r5 w5 h5
  have hU5' : Upd (fun b => w.heap.size ≤ b) w4 w5 := h5.upd.mono fun b h => Own.above ho4 h
  have hE5 : Ext w w5 := hE4.more hU5' fun b hb h => by omega
  have hG5 := hR.keep _ _ hG4 (hU5'.mono fun b h => by omega)
  have ho5 := h5.own
  have hz5 := hE5.size
  obtain ⟨a5,c5,rfl,_⟩ := Own.shape ho5
  try simp (maxSteps:=1000000)(disch:=(first|omega|(simp only [qI,qJ,qK]<;>omega)|exact qL _)) only [go_sem,↓reduceIte,n0,reduceCtorEq,n1,n2,n3,n4,n5,i0,i1,i2,i3,i4,i5,i6,i7]
  have hf5 := hE5.blk_some hf id
  have hp5 := hp.keep (hE5.keeps _)
  repeat refine W.seq ?_
  refine W.normJ (EndQ [(0,.pointer (some ⟨fp,0,none⟩)),(1,.slice a5 ((([0,0,0,0] : List UInt8) ++ fixedS key 2) ++ fixedS ver 2 ++ fixedS number 4).length c5),(2,.iface T mp),(33,.bool false)] (fun w' => w' = w5)) ?_ ?_
  · refine W.regR rfl ?_
    by_cases hk7 : key = 7
    · have hv0 : ¬ ver = 0 := fun h => hkv ⟨hk7,h⟩
      simp (maxSteps:=1000000)(disch:=(first|omega|(simp only [qI,qJ,qK]<;>omega)|exact qL _)) only [go_sem,↓reduceIte,n0,reduceCtorEq,n1,n2,n3,n4,n5,i0,i1,i2,i3,i4,i5,i6,i7,hk7,hv0]
      exact ⟨(by simp (maxSteps:=1000000)(disch:=(first|omega|(simp only [qI,qJ,qK]<;>omega)|exact qL _)) only [go_sem,↓reduceIte,n0,reduceCtorEq,n1,n2,n3,n4,n5,i0,i1,i2,i3,i4,i5,i6,i7,Holds_nil,Holds_cons]),rfl⟩
    · simp (maxSteps:=1000000)(disch:=(first|omega|(simp only [qI,qJ,qK]<;>omega)|exact qL _)) only [go_sem,↓reduceIte,n0,reduceCtorEq,n1,n2,n3,n4,n5,i0,i1,i2,i3,i4,i5,i6,i7,hk7]
      exact ⟨(by simp (maxSteps:=1000000)(disch:=(first|omega|(simp only [qI,qJ,qK]<;>omega)|exact qL _)) only [go_sem,↓reduceIte,n0,reduceCtorEq,n1,n2,n3,n4,n5,i0,i1,i2,i3,i4,i5,i6,i7,Holds_nil,Holds_cons]),rfl⟩
  rintro ρ wq ⟨⟨h0,h1,h2',h33,-⟩,hwq⟩
  obtain rfl := hwq.symm
  try simp (maxSteps:=1000000)(disch:=(first|omega|(simp only [qI,qJ,qK]<;>omega)|exact qL _)) only [go_sem,↓reduceIte,n0,reduceCtorEq,n1,n2,n3,n4,n5,i0,i1,i2,i3,i4,i5,i6,i7]
  repeat ((first | refine qA rfl ?_|refine qB ?_|refine qC rfl ?_|refine qD ?_|refine qE ?_|refine qF ?_|refine qG ?_|refine qH ?_);try simp (maxSteps:=1000000)(disch:=(first|omega|(simp only [qI,qJ,qK]<;>omega)|exact qL _)) only [go_sem,↓reduceIte,n0,reduceCtorEq,n1,n2,n3,n4,n5,i0,i1,i2,i3,i4,i5,i6,i7,h0,h1,h2',h33,hf5,↓step_invoke])
  refine (AppendNullableString_fn (ok := ok) _ _ w5 ho5 hz5 cid null x hp5 hx (by simp only [List.length_append,fixedS_len,hlen0];omega)).mono ?_
  rintro r6 w6 h6
  have hU6' : Upd (fun b => w.heap.size ≤ b) w5 w6 := h6.upd.mono fun b h => Own.above ho5 h
  have hE6 : Ext w w6 := hE5.more hU6' fun b hb h => by omega
  have hG6 := hR.keep _ _ hG5 (hU6'.mono fun b h => by omega)
  have ho6 := h6.own
  have hz6 := hE6.size
  obtain ⟨a6,c6,rfl,_⟩ := Own.shape ho6
  try simp (maxSteps:=1000000)(disch:=(first|omega|(simp only [qI,qJ,qK]<;>omega)|exact qL _)) only [go_sem,↓reduceIte,n0,reduceCtorEq,n1,n2,n3,n4,n5,i0,i1,i2,i3,i4,i5,i6,i7]
  repeat ((first | refine qA rfl ?_|refine qB ?_|refine qC rfl ?_|refine qD ?_|refine qE ?_|refine qF ?_|refine qG ?_|refine qH ?_);try simp (maxSteps:=1000000)(disch:=(first|omega|(simp only [qI,qJ,qK]<;>omega)|exact qL _)) only [go_sem,↓reduceIte,n0,reduceCtorEq,n1,n2,n3,n4,n5,i0,i1,i2,i3,i4,i5,i6,i7,h2',↓step_invoke])
  refine wp_invoke (by first | rfl | simp (maxSteps:=1000000)(disch:=(first|omega|(simp only [qI,qJ,qK]<;>omega)|exact qL _)) only [go_sem,↓reduceIte,n0,reduceCtorEq,n1,n2,n3,n4,n5,i0,i1,i2,i3,i4,i5,i6,i7]) mF hR.recv cF ?_
  try simp (maxSteps:=1000000)(disch:=(first|omega|(simp only [qI,qJ,qK]<;>omega)|exact qL _)) only [go_sem,↓reduceIte,n0,reduceCtorEq,n1,n2,n3,n4,n5,i0,i1,i2,i3,i4,i5,i6,i7]
  refine (hF w6 hG6).mono ?_
  rintro _ wq ⟨rfl,hwq⟩
  obtain rfl := hwq.symm
  try simp (maxSteps:=1000000)(disch:=(first|omega|(simp only [qI,qJ,qK]<;>omega)|exact qL _)) only [go_sem,↓reduceIte,n0,reduceCtorEq,n1,n2,n3,n4,n5,i0,i1,i2,i3,i4,i5,i6,i7]
  have hl6 : (([0,0,0,0] : List UInt8) ++ fixedS key 2 ++ fixedS ver 2 ++ fixedS number 4 ++ (if null = true then fixedS (-1) 2 else fixedS x.length 2 ++ x)).length ≤ 32781 := by
    simp only [List.length_append,fixedS_len,hlen0]
    split <;> simp only [List.length_append,fixedS_len] <;> omega
  generalize hs6 : (([0,0,0,0] : List UInt8) ++ fixedS key 2 ++ fixedS ver 2 ++ fixedS number 4 ++ (if null = true then fixedS (-1) 2 else fixedS x.length 2 ++ x)) = s6 at *
  repeat refine W.seq ?_
  refine W.normJ (RowQ [(2,.iface T mp)] 1 (fun v w' => OwnBy 5 w.heap.size w' v (s6 ++ if flex = true then [0] else []) ∧ Ext w w')) ?_ ?_
  · skip
    cases flex with
    | false =>
      repeat ((first | refine qA rfl ?_|refine qB ?_|refine qC rfl ?_|refine qD ?_|refine qE ?_|refine qF ?_|refine qG ?_|refine qH ?_);try simp (maxSteps:=1000000)(disch:=(first|omega|(simp only [qI,qJ,qK]<;>omega)|exact qL _)) only [go_sem,↓reduceIte,n0,reduceCtorEq,n1,n2,n3,n4,n5,i0,i1,i2,i3,i4,i5,i6,i7])
      have ho6' : OwnBy 5 w.heap.size w6 (.slice a6 s6.length c6) (s6 ++ if false = true then [0] else []) := by simpa using ho6
      exact ⟨(by simp (maxSteps:=1000000)(disch:=(first|omega|(simp only [qI,qJ,qK]<;>omega)|exact qL _)) only [go_sem,↓reduceIte,n0,reduceCtorEq,n1,n2,n3,n4,n5,i0,i1,i2,i3,i4,i5,i6,i7,Holds_nil,Holds_cons,h2']),_,(by simp (maxSteps:=1000000)(disch:=(first|omega|(simp only [qI,qJ,qK]<;>omega)|exact qL _)) only [go_sem,↓reduceIte,n0,reduceCtorEq,n1,n2,n3,n4,n5,i0,i1,i2,i3,i4,i5,i6,i7]),ho6',hE6⟩
    | true =>
      repeat ((first | refine qA rfl ?_|refine qB ?_|refine qC rfl ?_|refine qD ?_|refine qE ?_|refine qF ?_|refine qG ?_|refine qH ?_);try simp (maxSteps:=1000000)(disch:=(first|omega|(simp only [qI,qJ,qK]<;>omega)|exact qL _)) only [go_sem,↓reduceIte,n0,reduceCtorEq,n1,n2,n3,n4,n5,i0,i1,i2,i3,i4,i5,i6,i7])
      try simp only [List.cons_append,List.nil_append,List.append_nil]
      have hE7 : Ext w6 (w6.alloc (.cells #[.int .u8 0] 5)) := Upd.alloc (Upd.refl _ _) _
      have hs7 : Src (w6.alloc (.cells #[.int .u8 0] 5)) 1 (.slice (some ⟨w6.heap.size,0,none⟩) 1 1) 1 (([0] : List UInt8).map byteV) := Src.blk (fr := (0,0)) (T := 5) (blk_alloc_new rfl) rfl rfl
      have ho7 := ho6.alloc (.cells #[.int .u8 0] 5)
      generalize (w6.alloc (.cells #[.int .u8 0] 5)) = w7 at *
      have hz7 := (hE6.trans hE7).size
      refine wp_append ap_24_24 (B := w.heap.size) (n := s6.length) (cs := s6.map byteV) (m := 1) (news := ([0] : List UInt8).map byteV) (v := .slice a6 s6.length c6) (u := .slice (some ⟨w6.heap.size,0,none⟩) 1 1) (by first | rfl | simp (maxSteps:=1000000)(disch:=(first|omega|(simp only [qI,qJ,qK]<;>omega)|exact qL _)) only [go_sem,↓reduceIte,n0,reduceCtorEq,n1,n2,n3,n4,n5,i0,i1,i2,i3,i4,i5,i6,i7]) (by first | rfl | simp (maxSteps:=1000000)(disch:=(first|omega|(simp only [qI,qJ,qK]<;>omega)|exact qL _)) only [go_sem,↓reduceIte,n0,reduceCtorEq,n1,n2,n3,n4,n5,i0,i1,i2,i3,i4,i5,i6,i7]) ho7 (flat_bytes _) hs7 hz7 (by omega) ?_
      intro v8 w8 h8 hU8 hf8
      try simp (maxSteps:=1000000)(disch:=(first|omega|(simp only [qI,qJ,qK]<;>omega)|exact qL _)) only [go_sem,↓reduceIte,n0,reduceCtorEq,n1,n2,n3,n4,n5,i0,i1,i2,i3,i4,i5,i6,i7]
      repeat ((first | refine qA rfl ?_|refine qB ?_|refine qC rfl ?_|refine qD ?_|refine qE ?_|refine qF ?_|refine qG ?_|refine qH ?_);try simp (maxSteps:=1000000)(disch:=(first|omega|(simp only [qI,qJ,qK]<;>omega)|exact qL _)) only [go_sem,↓reduceIte,n0,reduceCtorEq,n1,n2,n3,n4,n5,i0,i1,i2,i3,i4,i5,i6,i7])
      exact ⟨(by simp (maxSteps:=1000000)(disch:=(first|omega|(simp only [qI,qJ,qK]<;>omega)|exact qL _)) only [go_sem,↓reduceIte,n0,reduceCtorEq,n1,n2,n3,n4,n5,i0,i1,i2,i3,i4,i5,i6,i7,Holds_nil,Holds_cons,h2']),_,(by simp (maxSteps:=1000000)(disch:=(first|omega|(simp only [qI,qJ,qK]<;>omega)|exact qL _)) only [go_sem,↓reduceIte,n0,reduceCtorEq,n1,n2,n3,n4,n5,i0,i1,i2,i3,i4,i5,i6,i7]),OwnBy.app (s := s6) (t := [0]) h8 (by simp),(hE6.trans hE7).more hU8 fun b hb h => by have := Own.above ho6 h;omega⟩
  rintro ρ w9 ⟨⟨h2'',-⟩,v9,h1',ho9,hE9⟩
  try simp (maxSteps:=1000000)(disch:=(first|omega|(simp only [qI,qJ,qK]<;>omega)|exact qL _)) only [go_sem,↓reduceIte,n0,reduceCtorEq,n1,n2,n3,n4,n5,i0,i1,i2,i3,i4,i5,i6,i7]
  have hl9 : (s6 ++ if flex = true then [0] else []).length ≤ 32782 := by rw [List.length_append];split <;> simp only [List.length_cons,List.length_nil] <;> omega
  have hG9 : Gd w9 := hR.keep _ _ hG (hE9.mono fun _ h => h.elim)
  have hz9 := hE9.size
  repeat ((first | refine qA rfl ?_|refine qB ?_|refine qC rfl ?_|refine qD ?_|refine qE ?_|refine qF ?_|refine qG ?_|refine qH ?_);try simp (maxSteps:=1000000)(disch:=(first|omega|(simp only [qI,qJ,qK]<;>omega)|exact qL _)) only [go_sem,↓reduceIte,n0,reduceCtorEq,n1,n2,n3,n4,n5,i0,i1,i2,i3,i4,i5,i6,i7,h1',h2'',↓step_invoke])
  refine wp_invoke (by first | rfl | simp (maxSteps:=1000000)(disch:=(first|omega|(simp only [qI,qJ,qK]<;>omega)|exact qL _)) only [go_sem,↓reduceIte,n0,reduceCtorEq,n1,n2,n3,n4,n5,i0,i1,i2,i3,i4,i5,i6,i7]) mA hR.recv cA ?_
  try simp (maxSteps:=1000000)(disch:=(first|omega|(simp only [qI,qJ,qK]<;>omega)|exact qL _)) only [go_sem,↓reduceIte,n0,reduceCtorEq,n1,n2,n3,n4,n5,i0,i1,i2,i3,i4,i5,i6,i7]
  refine (hA w9 v9 _ w.heap.size hG9 hB hz9 ho9 (by omega)).mono ?_
  rintro rA wA hA9
  have hUA : Upd (fun b => w.heap.size ≤ b) w9 wA := hA9.upd.mono fun b h => Own.above ho9 h
  have hEA : Ext w wA := hE9.more hUA fun b hb h => by omega
  have hoA := hA9.own
  have hsA : (s6 ++ if flex = true then [0] else []) ++ body = [0,0,0,0] ++ frameB key ver number null x flex body := by rw [← hs6];simp only [frameB,List.append_assoc]
  rw [hsA] at hoA
  generalize hfb : frameB key ver number null x flex body = fb at *
  have hfl : fb.length ≤ 2 ^ 41 := by rw [← hfb];have := frameB_len key ver number null x flex body hx;omega
  obtain ⟨gA,cA',restA,frA,hrA,hgA,hbA,hcA,hthA,hleA⟩ : ∃ g cap rest fr,rA = .slice (some ⟨g,0,none⟩) ([0,0,0,0] ++ fb : List UInt8).length cap ∧ w.heap.size ≤ g ∧ blk wA g = some ((([0,0,0,0] ++ fb : List UInt8).map byteV ++ rest).toArray,5,fr) ∧ (([0,0,0,0] ++ fb : List UInt8).map byteV).length + rest.length = cap * 1 ∧ thaw fr 0 (cap * 1) = true ∧ ([0,0,0,0] ++ fb : List UInt8).length ≤ cap := by
    rcases hoA.2 with ⟨_,h⟩ | h
    · simp at h
    · exact h
  subst hrA
  have hL : ([0,0,0,0] ++ fb : List UInt8).length = 4 + fb.length := by simp only [List.length_append,hlen0]
  try simp (maxSteps:=1000000)(disch:=(first|omega|(simp only [qI,qJ,qK]<;>omega)|exact qL _)) only [go_sem,↓reduceIte,n0,reduceCtorEq,n1,n2,n3,n4,n5,i0,i1,i2,i3,i4,i5,i6,i7]
  repeat ((first | refine qA rfl ?_|refine qB ?_|refine qC rfl ?_|refine qD ?_|refine qE ?_|refine qF ?_|refine qG ?_|refine qH ?_);try simp (maxSteps:=1000000)(disch:=(first|omega|(simp only [qI,qJ,qK]<;>omega)|exact qL _)) only [go_sem,↓reduceIte,n0,reduceCtorEq,n1,n2,n3,n4,n5,i0,i1,i2,i3,i4,i5,i6,i7])
  refine W.drawR (.take 0 (.take 1 (.take 2 (.take 3 (.take 4 (.take 5 (.only 6 .done))))))) (fun b => b = gA) mixed (by kernel_rfl) ?_
  have hEd : Ext wA wA.drew := (Upd.refl _ _).drew
  have hbd : blk wA.drew gA = _ := hbA
  have hod : OwnBy 5 w.heap.size wA.drew _ ([0,0,0,0] ++ fb) := Own.upd hoA hEd (fun _ _ h => h)
  simp (maxSteps:=1000000)(disch:=(first|omega|(simp only [qI,qJ,qK]<;>omega)|exact qL _)) only [go_sem,↓reduceIte,n0,reduceCtorEq,n1,n2,n3,n4,n5,i0,i1,i2,i3,i4,i5,i6,i7,hL]
  generalize wA.drew = wD at *
  have hsb : slBase (some ⟨gA,0,none⟩) 0 cA' 1 = some ⟨gA,0,none⟩ := by unfold slBase;split <;> rfl
  rw [hsb,Nat.sub_zero,show 4 + fb.length - 4 = fb.length by omega]
  refine (AppendInt32In_fn (cap := cA') (xb := ((([0,0,0,0] ++ fb : List UInt8).map byteV ++ restA).toArray,5,frA)) wD hbd (by omega) (by first | (simp;done) | (simp;omega)) (show frA.2 ≤ 0 ∨ 4 ≤ frA.1 by simp only [thaw,Bool.or_eq_true,Nat.ble_eq] at hthA;omega) (IntKind.i32.wrap (fb.length : Int))).mono ?_
  rintro rE wE ⟨hUE,hbE⟩
  refine ⟨?_,?_⟩
  · exact hUE.mono fun b h => h
  try simp (maxSteps:=1000000)(disch:=(first|omega|(simp only [qI,qJ,qK]<;>omega)|exact qL _)) only [go_sem,↓reduceIte,n0,reduceCtorEq,n1,n2,n3,n4,n5,i0,i1,i2,i3,i4,i5,i6,i7]
  repeat ((first | refine qA rfl ?_|refine qB ?_|refine qC rfl ?_|refine qD ?_|refine qE ?_|refine qF ?_|refine qG ?_|refine qH ?_);try simp (maxSteps:=1000000)(disch:=(first|omega|(simp only [qI,qJ,qK]<;>omega)|exact qL _)) only [go_sem,↓reduceIte,n0,reduceCtorEq,n1,n2,n3,n4,n5,i0,i1,i2,i3,i4,i5,i6,i7])
  have hwr : fixedS (IntKind.i32.wrap (fb.length : Int)) 4 = fixedS (fb.length : Int) 4 := fixedS_wrap 3 (by simp [numK]) _
  rw [hwr] at hbE
  have hoE := OwnBy.front (w' := wE) (a := fixedS (fb.length : Int) 4) hod (by rw [fixedS_len,hL];omega) hbE
  have hsE : fixedS (fb.length : Int) 4 ++ ([0,0,0,0] ++ fb : List UInt8).drop (fixedS (fb.length : Int) 4).length = frameS key ver number null x flex body := by
    rw [fixedS_len,frameS,hfb];rfl
  rw [hsE,hL] at hoE
  exact ⟨hoE,(hEA.trans hEd).more hUE fun b hb h => by omega⟩

theorem framed_fn {T : TypeId} {mp : Value} {B : Nat} {key ver : Int} {flex : Bool} {body : List UInt8} {Gd : World → Prop} (hR : ReqOk Tryd.prog 5 T mp B key ver flex body Gd) (hmp : flat mp = true) (w : World) (hG : Gd w) (hB : B ≤ w.heap.size) (has : Bool) (id : List UInt8) (hx : id.length ≤ 32767) (hbl : body.length ≤ 2 ^ 40) (number : Int) (hkv : ¬ (key = 7 ∧ ver = 0)) :
    Fn Tryd.prog 20 #[.agg #[.bool has,strV id],.iface T mp,.int .i32 number] w fun r w' => OwnBy 5 w.heap.size w' r (frameS key ver number (!has) id flex body) ∧ Ext w w' := by
  refine fn_of_W Tryd.func20 rfl Tryd.results20 Tryd.ntmps20 rfl ?_
  repeat ((first | refine qA rfl ?_|refine qB ?_|refine qC rfl ?_|refine qD ?_|refine qE ?_|refine qF ?_|refine qG ?_|refine qH ?_);try simp (maxSteps:=1000000)(disch:=(first|omega|(simp only [qI,qJ,qK]<;>omega)|exact qL _)) only [go_sem,↓reduceIte,n0,reduceCtorEq,n1,n2,n3,n4,n5,i0,i1,i2,i3,i4,i5,i6,i7,cells_strV,flat_strV])
  have hE1 : Ext w (w.alloc (.cells #[.bool has,strV id] 23)) := Upd.alloc (Upd.refl _ _) _
  have hb1 : blk (w.alloc (.cells #[.bool has,strV id] 23)) w.heap.size = some (#[.bool has,strV id],23,(0,0)) := blk_alloc_new rfl
  generalize w.alloc (.cells #[.bool has,strV id] 23) = w1 at *
  refine (NewReq0_fn w1).mono ?_
  rintro _ w2 ⟨rfl,hb2,hE2⟩
  have hE02 := hE1.trans hE2
  have hb12 := hE2.blk_some hb1 _root_.id
  have hz1 := hE1.size
  cases has with
  | false =>
    simp (maxSteps:=1000000)(disch:=(first|omega|(simp only [qI,qJ,qK]<;>omega)|exact qL _)) only [go_sem,↓reduceIte,n0,reduceCtorEq,n1,n2,n3,n4,n5,i0,i1,i2,i3,i4,i5,i6,i7]
    repeat ((first | refine qA rfl ?_|refine qB ?_|refine qC rfl ?_|refine qD ?_|refine qE ?_|refine qF ?_|refine qG ?_|refine qH ?_);try simp (maxSteps:=1000000)(disch:=(first|omega|(simp only [qI,qJ,qK]<;>omega)|exact qL _)) only [go_sem,↓reduceIte,n0,reduceCtorEq,n1,n2,n3,n4,n5,i0,i1,i2,i3,i4,i5,i6,i7,hb12])
    refine (AppendRequest_fn hR hmp w2 (hR.keep _ _ hG (hE02.mono fun _ h => h.elim)) (by have := hE02.size;omega) (ok := AnyB) hb2 true id rfl hx hbl number hkv).mono ?_
    rintro r w3 ⟨ho3,hE3⟩
    repeat ((first | refine qA rfl ?_|refine qB ?_|refine qC rfl ?_|refine qD ?_|refine qE ?_|refine qF ?_|refine qG ?_|refine qH ?_);try simp (maxSteps:=1000000)(disch:=(first|omega|(simp only [qI,qJ,qK]<;>omega)|exact qL _)) only [go_sem,↓reduceIte,n0,reduceCtorEq,n1,n2,n3,n4,n5,i0,i1,i2,i3,i4,i5,i6,i7])
    exact ⟨Own.mono ho3 hE02.size,hE02.trans hE3⟩
  | true =>
    simp (maxSteps:=1000000)(disch:=(first|omega|(simp only [qI,qJ,qK]<;>omega)|exact qL _)) only [go_sem,↓reduceIte,n0,reduceCtorEq,n1,n2,n3,n4,n5,i0,i1,i2,i3,i4,i5,i6,i7]
    repeat ((first | refine qA rfl ?_|refine qB ?_|refine qC rfl ?_|refine qD ?_|refine qE ?_|refine qF ?_|refine qG ?_|refine qH ?_);try simp (maxSteps:=1000000)(disch:=(first|omega|(simp only [qI,qJ,qK]<;>omega)|exact qL _)) only [go_sem,↓reduceIte,n0,reduceCtorEq,n1,n2,n3,n4,n5,i0,i1,i2,i3,i4,i5,i6,i7,hb12])
    refine (ClientID_fn id w2).mono ?_
    rintro _ w3 ⟨rfl,hb3,hE3⟩
    simp (maxSteps:=1000000)(disch:=(first|omega|(simp only [qI,qJ,qK]<;>omega)|exact qL _)) only [go_sem,↓reduceIte,n0,reduceCtorEq,n1,n2,n3,n4,n5,i0,i1,i2,i3,i4,i5,i6,i7]
    try simp only [List.cons_append,List.nil_append,List.append_nil]
    have hE4 : Ext w3 (w3.alloc (.cells #[.iface 97 (.agg #[.func (.func 44) #[] #[.pointer (some ⟨w2.heap.size,0,none⟩)]])] 78)) := Upd.alloc (Upd.refl _ _) _
    have hb4 : blk (w3.alloc (.cells #[.iface 97 (.agg #[.func (.func 44) #[] #[.pointer (some ⟨w2.heap.size,0,none⟩)]])] 78)) w3.heap.size = some (#[.iface 97 (.agg #[.func (.func 44) #[] #[.pointer (some ⟨w2.heap.size,0,none⟩)]])],78,(0,0)) := blk_alloc_new rfl
    generalize w3.alloc (.cells #[.iface 97 (.agg #[.func (.func 44) #[] #[.pointer (some ⟨w2.heap.size,0,none⟩)]])] 78) = w4 at *
    refine (NewReq1_fn w4 hb4).mono ?_
    rintro _ w5 ⟨rfl,hb5,hE5⟩
    have hE45 := hE4.trans hE5
    have hE05 := (hE02.trans hE3).trans hE45
    try simp (maxSteps:=1000000)(disch:=(first|omega|(simp only [qI,qJ,qK]<;>omega)|exact qL _)) only [go_sem,↓reduceIte,n0,reduceCtorEq,n1,n2,n3,n4,n5,i0,i1,i2,i3,i4,i5,i6,i7]
    repeat ((first | refine qA rfl ?_|refine qB ?_|refine qC rfl ?_|refine qD ?_|refine qE ?_|refine qF ?_|refine qG ?_|refine qH ?_);try simp (maxSteps:=1000000)(disch:=(first|omega|(simp only [qI,qJ,qK]<;>omega)|exact qL _)) only [go_sem,↓reduceIte,n0,reduceCtorEq,n1,n2,n3,n4,n5,i0,i1,i2,i3,i4,i5,i6,i7])
    refine (AppendRequest_fn hR hmp w5 (hR.keep _ _ hG (hE05.mono fun _ h => h.elim)) (by have := hE05.size;omega) (ok := AnyB) hb5 false id ⟨_,_,_,rfl,trivial,hE45.blk_some hb3 _root_.id,rfl⟩ hx hbl number hkv).mono ?_
    rintro r w6 ⟨ho6,hE6⟩
    repeat ((first | refine qA rfl ?_|refine qB ?_|refine qC rfl ?_|refine qD ?_|refine qE ?_|refine qF ?_|refine qG ?_|refine qH ?_);try simp (maxSteps:=1000000)(disch:=(first|omega|(simp only [qI,qJ,qK]<;>omega)|exact qL _)) only [go_sem,↓reduceIte,n0,reduceCtorEq,n1,n2,n3,n4,n5,i0,i1,i2,i3,i4,i5,i6,i7])
    exact ⟨Own.mono ho6 hE05.size,hE05.trans hE6⟩

end Ms

namespace Ms
open Go.World renaming size_alloc → qI
open Ms renaming size_wr → qJ,size_drew → qK,not_noB → qL
open W renaming seqR → qA,seq → qB,regR → qC,condK → qD,block → qE,skip → qF,ret → qG,exit → qH
open Nat renaming reduceEqDiff → n0,reduceAdd → n1,reduceMul → n2,reduceSub → n3,reduceLT → n4,reduceLeDiff → n5
open Int renaming reduceEq → i0,reduceLT → i1,reduceLE → i2,reduceNeg → i3,reduceAdd → i4,reduceSub → i5,reduceMul → i6,reduceToNat → i7
set_option maxRecDepth 8000
set_option maxHeartbeats 24000000
open Go Go.Proofs Go.Shelf
attribute [local congr] W_congr WPsq_congr WPp_congr optK_congr addrK_congr intK_congr boolK_congr sliceK_congr tupleK_congr funcK_congr Fn_congr rawK_congr takeK_congr stepK_congr convK_congr aggK_congr

theorem Frame_fn (key ver number : Int) (hn : -2147483648 ≤ number ∧ number < 2147483648) (has flex : Bool) (id body : List UInt8) (vi vb : Value) (w : World) (hi : BytesV AnyB w vi id) (hb : BytesV AnyB w vb body) (hil : id.length ≤ 32767) (hbl : body.length ≤ 2 ^ 40) :
    Fn Tryd.prog 12 #[.int .i64 key,.int .i64 ver,.int .i32 number,.bool has,vi,.bool flex,vb] w fun r w' => OwnBy 5 w.heap.size w' r (frameS key ver number (!has) id flex body) ∧ Ext w w' := by
  obtain ⟨ai,ci,rfl,_⟩ := hi.shape
  obtain ⟨ab,cb,rfl,_⟩ := hb.shape
  have ew : IntKind.i64.wrap number = number := i64_wrap (by omega)
  refine fn_of_W Tryd.func12 rfl Tryd.results12 Tryd.ntmps12 rfl ?_
  repeat ((first | refine qA rfl ?_|refine qB ?_|refine qC rfl ?_|refine qD ?_|refine qE ?_|refine qF ?_|refine qG ?_|refine qH ?_);try simp (maxSteps:=1000000)(disch:=(first|omega|(simp only [qI,qJ,qK]<;>omega)|exact qL _)) only [go_sem,↓reduceIte,n0,reduceCtorEq,n1,n2,n3,n4,n5,i0,i1,i2,i3,i4,i5,i6,i7,ew])
  refine (Fixed_fn (key) 2 (by omega) w).mono ?_
  rintro v1 w1 ⟨hf1,hx1⟩
  obtain ⟨oa1,oc1,rfl,_⟩ := Own.shape hf1
  have hE1 : Ext w w1 := hx1
  have hz1 := hE1.size
  try simp (maxSteps:=1000000)(disch:=(first|omega|(simp only [qI,qJ,qK]<;>omega)|exact qL _)) only [go_sem,↓reduceIte,n0,reduceCtorEq,n1,n2,n3,n4,n5,i0,i1,i2,i3,i4,i5,i6,i7,ew]
  refine (Fixed_fn (ver) 2 (by omega) w1).mono ?_
  rintro v2 w2 ⟨hf2,hx2⟩
  obtain ⟨oa2,oc2,rfl,_⟩ := Own.shape hf2
  have hE2 : Ext w w2 := (hE1).trans hx2
  have hz2 := hE2.size
  try simp (maxSteps:=1000000)(disch:=(first|omega|(simp only [qI,qJ,qK]<;>omega)|exact qL _)) only [go_sem,↓reduceIte,n0,reduceCtorEq,n1,n2,n3,n4,n5,i0,i1,i2,i3,i4,i5,i6,i7,ew]
  refine wp_append ap_24_24 (B := w.heap.size) (n := (fixedS key 2).length) (cs := (fixedS key 2).map byteV) (m := (fixedS ver 2).length) (news := (fixedS ver 2).map byteV) (v := .slice oa1 (fixedS key 2).length oc1) (u := .slice oa2 (fixedS ver 2).length oc2) (by first | rfl | simp (maxSteps:=1000000)(disch:=(first|omega|(simp only [qI,qJ,qK]<;>omega)|exact qL _)) only [go_sem,↓reduceIte,n0,reduceCtorEq,n1,n2,n3,n4,n5,i0,i1,i2,i3,i4,i5,i6,i7]) (by first | rfl | simp (maxSteps:=1000000)(disch:=(first|omega|(simp only [qI,qJ,qK]<;>omega)|exact qL _)) only [go_sem,↓reduceIte,n0,reduceCtorEq,n1,n2,n3,n4,n5,i0,i1,i2,i3,i4,i5,i6,i7]) (Own.upd hf1 hx2 (fun _ _ h => h)) (flat_bytes _) ((Own.bytes (ok := AnyB) hf2 fun _ _ => trivial).src) (by have := (hE2).size;omega) (by first | omega | (simp only [List.length_append,fixedS_len,List.length_cons,List.length_nil];omega)) ?_
  intro v3 w3 h3 hU3 hfr3
  have ho3 : OwnBy 5 w.heap.size w3 v3 ((fixedS key 2) ++ (fixedS ver 2)) := OwnBy.app (s := fixedS key 2) (t := fixedS ver 2) h3 rfl
  have hE3 : Ext w w3 := (hE2).more hU3 fun b hb h => by have := Own.above (Own.upd hf1 hx2 (fun _ _ h => h)) h;omega
  have hz3 := hE3.size
  obtain ⟨oa3,oc3,rfl,_⟩ := Own.shape ho3
  try simp (maxSteps:=1000000)(disch:=(first|omega|(simp only [qI,qJ,qK]<;>omega)|exact qL _)) only [go_sem,↓reduceIte,n0,reduceCtorEq,n1,n2,n3,n4,n5,i0,i1,i2,i3,i4,i5,i6,i7,ew]
  repeat ((first | refine qA rfl ?_|refine qB ?_|refine qC rfl ?_|refine qD ?_|refine qE ?_|refine qF ?_|refine qG ?_|refine qH ?_);try simp (maxSteps:=1000000)(disch:=(first|omega|(simp only [qI,qJ,qK]<;>omega)|exact qL _)) only [go_sem,↓reduceIte,n0,reduceCtorEq,n1,n2,n3,n4,n5,i0,i1,i2,i3,i4,i5,i6,i7,ew])
  refine (Fixed_fn (number) 4 (by omega) w3).mono ?_
  rintro v4 w4 ⟨hf4,hx4⟩
  obtain ⟨oa4,oc4,rfl,_⟩ := Own.shape hf4
  have hE4 : Ext w w4 := (hE3).trans hx4
  have hz4 := hE4.size
  try simp (maxSteps:=1000000)(disch:=(first|omega|(simp only [qI,qJ,qK]<;>omega)|exact qL _)) only [go_sem,↓reduceIte,n0,reduceCtorEq,n1,n2,n3,n4,n5,i0,i1,i2,i3,i4,i5,i6,i7,ew]
  refine wp_append ap_24_24 (B := w.heap.size) (n := ((fixedS key 2) ++ (fixedS ver 2)).length) (cs := ((fixedS key 2) ++ (fixedS ver 2)).map byteV) (m := (fixedS number 4).length) (news := (fixedS number 4).map byteV) (v := .slice oa3 ((fixedS key 2) ++ (fixedS ver 2)).length oc3) (u := .slice oa4 (fixedS number 4).length oc4) (by first | rfl | simp (maxSteps:=1000000)(disch:=(first|omega|(simp only [qI,qJ,qK]<;>omega)|exact qL _)) only [go_sem,↓reduceIte,n0,reduceCtorEq,n1,n2,n3,n4,n5,i0,i1,i2,i3,i4,i5,i6,i7]) (by first | rfl | simp (maxSteps:=1000000)(disch:=(first|omega|(simp only [qI,qJ,qK]<;>omega)|exact qL _)) only [go_sem,↓reduceIte,n0,reduceCtorEq,n1,n2,n3,n4,n5,i0,i1,i2,i3,i4,i5,i6,i7]) (Own.upd ho3 hx4 (fun _ _ h => h)) (flat_bytes _) ((Own.bytes (ok := AnyB) hf4 fun _ _ => trivial).src) (by have := (hE4).size;omega) (by first | omega | (simp only [List.length_append,fixedS_len,List.length_cons,List.length_nil];omega)) ?_
  intro v5 w5 h5 hU5 hfr5
  have ho5 : OwnBy 5 w.heap.size w5 v5 (((fixedS key 2) ++ (fixedS ver 2)) ++ (fixedS number 4)) := OwnBy.app (s := (fixedS key 2) ++ (fixedS ver 2)) (t := fixedS number 4) h5 rfl
  have hE5 : Ext w w5 := (hE4).more hU5 fun b hb h => by have := Own.above (Own.upd ho3 hx4 (fun _ _ h => h)) h;omega
  have hz5 := hE5.size
  obtain ⟨oa5,oc5,rfl,_⟩ := Own.shape ho5
  try simp (maxSteps:=1000000)(disch:=(first|omega|(simp only [qI,qJ,qK]<;>omega)|exact qL _)) only [go_sem,↓reduceIte,n0,reduceCtorEq,n1,n2,n3,n4,n5,i0,i1,i2,i3,i4,i5,i6,i7,ew]
  have hl5 : (((fixedS key 2) ++ (fixedS ver 2)) ++ (fixedS number 4)).length = 8 := by simp only [List.length_append,fixedS_len]
  generalize hs5 : ((fixedS key 2) ++ (fixedS ver 2)) ++ (fixedS number 4) = s5 at *
  try repeat ((first | refine W.seqR rfl ?_ | refine W.seq ?_ | refine W.regR rfl ?_ | refine W.block ?_ | refine W.skip ?_ | refine W.ret ?_ | refine W.exit ?_);try simp (maxSteps:=1000000)(disch:=(first|omega|(simp only [qI,qJ,qK]<;>omega)|exact qL _)) only [go_sem,↓reduceIte,n0,reduceCtorEq,n1,n2,n3,n4,n5,i0,i1,i2,i3,i4,i5,i6,i7])
  repeat refine W.seq ?_
  refine W.normJ (RowQ [(5,.bool flex),(6,.slice ab body.length cb)] 15 (fun v w' => OwnBy 5 w.heap.size w' v (s5 ++ if (!has) = true then fixedS (-1) 2 else fixedS id.length 2 ++ id) ∧ Ext w w')) ?_ ?_
  · skip
    cases has with
    | false =>
      repeat ((first | refine qA rfl ?_|refine qB ?_|refine qC rfl ?_|refine qD ?_|refine qE ?_|refine qF ?_|refine qG ?_|refine qH ?_);try simp (maxSteps:=1000000)(disch:=(first|omega|(simp only [qI,qJ,qK]<;>omega)|exact qL _)) only [go_sem,↓reduceIte,n0,reduceCtorEq,n1,n2,n3,n4,n5,i0,i1,i2,i3,i4,i5,i6,i7,ew])
      refine (Fixed_fn (-1) 2 (by omega) w5).mono ?_
      rintro v6 w6 ⟨hf6,hx6⟩
      obtain ⟨oa6,oc6,rfl,_⟩ := Own.shape hf6
      have hE6 : Ext w w6 := (hE5).trans hx6
      have hz6 := hE6.size
      try simp (maxSteps:=1000000)(disch:=(first|omega|(simp only [qI,qJ,qK]<;>omega)|exact qL _)) only [go_sem,↓reduceIte,n0,reduceCtorEq,n1,n2,n3,n4,n5,i0,i1,i2,i3,i4,i5,i6,i7,ew]
      refine wp_append ap_24_24 (B := w.heap.size) (n := (s5).length) (cs := (s5).map byteV) (m := (fixedS (-1) 2).length) (news := (fixedS (-1) 2).map byteV) (v := .slice oa5 (s5).length oc5) (u := .slice oa6 (fixedS (-1) 2).length oc6) (by first | rfl | simp (maxSteps:=1000000)(disch:=(first|omega|(simp only [qI,qJ,qK]<;>omega)|exact qL _)) only [go_sem,↓reduceIte,n0,reduceCtorEq,n1,n2,n3,n4,n5,i0,i1,i2,i3,i4,i5,i6,i7]) (by first | rfl | simp (maxSteps:=1000000)(disch:=(first|omega|(simp only [qI,qJ,qK]<;>omega)|exact qL _)) only [go_sem,↓reduceIte,n0,reduceCtorEq,n1,n2,n3,n4,n5,i0,i1,i2,i3,i4,i5,i6,i7]) (Own.upd ho5 hx6 (fun _ _ h => h)) (flat_bytes _) ((Own.bytes (ok := AnyB) hf6 fun _ _ => trivial).src) (by have := (hE6).size;omega) (by first | omega | (simp only [List.length_append,fixedS_len,List.length_cons,List.length_nil];omega)) ?_
      intro v7 w7 h7 hU7 hfr7
      have ho7 : OwnBy 5 w.heap.size w7 v7 ((s5) ++ (fixedS (-1) 2)) := OwnBy.app (s := s5) (t := fixedS (-1) 2) h7 rfl
      have hE7 : Ext w w7 := (hE6).more hU7 fun b hb h => by have := Own.above (Own.upd ho5 hx6 (fun _ _ h => h)) h;omega
      have hz7 := hE7.size
      obtain ⟨oa7,oc7,rfl,_⟩ := Own.shape ho7
      try simp (maxSteps:=1000000)(disch:=(first|omega|(simp only [qI,qJ,qK]<;>omega)|exact qL _)) only [go_sem,↓reduceIte,n0,reduceCtorEq,n1,n2,n3,n4,n5,i0,i1,i2,i3,i4,i5,i6,i7,ew]
      repeat ((first | refine qA rfl ?_|refine qB ?_|refine qC rfl ?_|refine qD ?_|refine qE ?_|refine qF ?_|refine qG ?_|refine qH ?_);try simp (maxSteps:=1000000)(disch:=(first|omega|(simp only [qI,qJ,qK]<;>omega)|exact qL _)) only [go_sem,↓reduceIte,n0,reduceCtorEq,n1,n2,n3,n4,n5,i0,i1,i2,i3,i4,i5,i6,i7,ew])
      exact ⟨(by simp (maxSteps:=1000000)(disch:=(first|omega|(simp only [qI,qJ,qK]<;>omega)|exact qL _)) only [go_sem,↓reduceIte,n0,reduceCtorEq,n1,n2,n3,n4,n5,i0,i1,i2,i3,i4,i5,i6,i7,Holds_nil,Holds_cons]),_,(by simp (maxSteps:=1000000)(disch:=(first|omega|(simp only [qI,qJ,qK]<;>omega)|exact qL _)) only [go_sem,↓reduceIte,n0,reduceCtorEq,n1,n2,n3,n4,n5,i0,i1,i2,i3,i4,i5,i6,i7]),ho7,hE7⟩
    | true =>
      repeat ((first | refine qA rfl ?_|refine qB ?_|refine qC rfl ?_|refine qD ?_|refine qE ?_|refine qF ?_|refine qG ?_|refine qH ?_);try simp (maxSteps:=1000000)(disch:=(first|omega|(simp only [qI,qJ,qK]<;>omega)|exact qL _)) only [go_sem,↓reduceIte,n0,reduceCtorEq,n1,n2,n3,n4,n5,i0,i1,i2,i3,i4,i5,i6,i7,ew])
      refine (Fixed_fn ((id.length : Int)) 2 (by omega) w5).mono ?_
      rintro v6 w6 ⟨hf6,hx6⟩
      obtain ⟨oa6,oc6,rfl,_⟩ := Own.shape hf6
      have hE6 : Ext w w6 := (hE5).trans hx6
      have hz6 := hE6.size
      try simp (maxSteps:=1000000)(disch:=(first|omega|(simp only [qI,qJ,qK]<;>omega)|exact qL _)) only [go_sem,↓reduceIte,n0,reduceCtorEq,n1,n2,n3,n4,n5,i0,i1,i2,i3,i4,i5,i6,i7,ew]
      refine wp_append ap_24_24 (B := w.heap.size) (n := (s5).length) (cs := (s5).map byteV) (m := (fixedS (id.length : Int) 2).length) (news := (fixedS (id.length : Int) 2).map byteV) (v := .slice oa5 (s5).length oc5) (u := .slice oa6 (fixedS (id.length : Int) 2).length oc6) (by first | rfl | simp (maxSteps:=1000000)(disch:=(first|omega|(simp only [qI,qJ,qK]<;>omega)|exact qL _)) only [go_sem,↓reduceIte,n0,reduceCtorEq,n1,n2,n3,n4,n5,i0,i1,i2,i3,i4,i5,i6,i7]) (by first | rfl | simp (maxSteps:=1000000)(disch:=(first|omega|(simp only [qI,qJ,qK]<;>omega)|exact qL _)) only [go_sem,↓reduceIte,n0,reduceCtorEq,n1,n2,n3,n4,n5,i0,i1,i2,i3,i4,i5,i6,i7]) (Own.upd ho5 hx6 (fun _ _ h => h)) (flat_bytes _) ((Own.bytes (ok := AnyB) hf6 fun _ _ => trivial).src) (by have := (hE6).size;omega) (by first | omega | (simp only [List.length_append,fixedS_len,List.length_cons,List.length_nil];omega)) ?_
      intro v7 w7 h7 hU7 hfr7
      have ho7 : OwnBy 5 w.heap.size w7 v7 ((s5) ++ (fixedS (id.length : Int) 2)) := OwnBy.app (s := s5) (t := fixedS (id.length : Int) 2) h7 rfl
      have hE7 : Ext w w7 := (hE6).more hU7 fun b hb h => by have := Own.above (Own.upd ho5 hx6 (fun _ _ h => h)) h;omega
      have hz7 := hE7.size
      obtain ⟨oa7,oc7,rfl,_⟩ := Own.shape ho7
      try simp (maxSteps:=1000000)(disch:=(first|omega|(simp only [qI,qJ,qK]<;>omega)|exact qL _)) only [go_sem,↓reduceIte,n0,reduceCtorEq,n1,n2,n3,n4,n5,i0,i1,i2,i3,i4,i5,i6,i7,ew]
      refine wp_append ap_24_24 (B := w.heap.size) (n := (s5 ++ fixedS (id.length : Int) 2).length) (cs := (s5 ++ fixedS (id.length : Int) 2).map byteV) (m := (id).length) (news := (id).map byteV) (v := .slice oa7 (s5 ++ fixedS (id.length : Int) 2).length oc7) (u := .slice ai id.length ci) (by first | rfl | simp (maxSteps:=1000000)(disch:=(first|omega|(simp only [qI,qJ,qK]<;>omega)|exact qL _)) only [go_sem,↓reduceIte,n0,reduceCtorEq,n1,n2,n3,n4,n5,i0,i1,i2,i3,i4,i5,i6,i7]) (by first | rfl | simp (maxSteps:=1000000)(disch:=(first|omega|(simp only [qI,qJ,qK]<;>omega)|exact qL _)) only [go_sem,↓reduceIte,n0,reduceCtorEq,n1,n2,n3,n4,n5,i0,i1,i2,i3,i4,i5,i6,i7]) (ho7) (flat_bytes _) (((hi.keep (Ext.keeps hE7 _)).src)) (by have := (hE7).size;omega) (by first | omega | (simp only [List.length_append,fixedS_len,List.length_cons,List.length_nil];omega)) ?_
      intro v8 w8 h8 hU8 hfr8
      have ho8 : OwnBy 5 w.heap.size w8 v8 ((s5 ++ fixedS (id.length : Int) 2) ++ (id)) := OwnBy.app (s := s5 ++ fixedS (id.length : Int) 2) (t := id) h8 rfl
      have hE8 : Ext w w8 := (hE7).more hU8 fun b hb h => by have := Own.above (ho7) h;omega
      have hz8 := hE8.size
      obtain ⟨oa8,oc8,rfl,_⟩ := Own.shape ho8
      try simp (maxSteps:=1000000)(disch:=(first|omega|(simp only [qI,qJ,qK]<;>omega)|exact qL _)) only [go_sem,↓reduceIte,n0,reduceCtorEq,n1,n2,n3,n4,n5,i0,i1,i2,i3,i4,i5,i6,i7,ew]
      repeat ((first | refine qA rfl ?_|refine qB ?_|refine qC rfl ?_|refine qD ?_|refine qE ?_|refine qF ?_|refine qG ?_|refine qH ?_);try simp (maxSteps:=1000000)(disch:=(first|omega|(simp only [qI,qJ,qK]<;>omega)|exact qL _)) only [go_sem,↓reduceIte,n0,reduceCtorEq,n1,n2,n3,n4,n5,i0,i1,i2,i3,i4,i5,i6,i7,ew])
      have ho8' : OwnBy 5 w.heap.size w8 (.slice oa8 (s5 ++ fixedS (id.length : Int) 2 ++ id).length oc8) (s5 ++ (fixedS (id.length : Int) 2 ++ id)) := by rw [← List.append_assoc];exact ho8
      exact ⟨(by simp (maxSteps:=1000000)(disch:=(first|omega|(simp only [qI,qJ,qK]<;>omega)|exact qL _)) only [go_sem,↓reduceIte,n0,reduceCtorEq,n1,n2,n3,n4,n5,i0,i1,i2,i3,i4,i5,i6,i7,Holds_nil,Holds_cons]),_,(by simp (maxSteps:=1000000)(disch:=(first|omega|(simp only [qI,qJ,qK]<;>omega)|exact qL _)) only [go_sem,↓reduceIte,n0,reduceCtorEq,n1,n2,n3,n4,n5,i0,i1,i2,i3,i4,i5,i6,i7]),ho8',hE8⟩
  rintro ρ w9 ⟨⟨h5r,h6r,-⟩,v9,h15,ho9,hE9⟩
  try simp (maxSteps:=1000000)(disch:=(first|omega|(simp only [qI,qJ,qK]<;>omega)|exact qL _)) only [go_sem,↓reduceIte,n0,reduceCtorEq,n1,n2,n3,n4,n5,i0,i1,i2,i3,i4,i5,i6,i7]
  have hl9 : (s5 ++ if (!has) = true then fixedS (-1) 2 else fixedS id.length 2 ++ id).length ≤ 32777 := by rw [List.length_append,hl5];split <;> simp only [List.length_append,fixedS_len] <;> omega
  generalize hs9 : (s5 ++ if (!has) = true then fixedS (-1) 2 else fixedS id.length 2 ++ id) = s9 at *
  have hz9 := hE9.size
  obtain ⟨oa9,oc9,rfl,_⟩ := Own.shape ho9
  repeat ((first | refine W.seqR rfl ?_ | refine W.seq ?_ | refine W.regR rfl ?_ | refine W.block ?_ | refine W.skip ?_ | refine W.ret ?_ | refine W.exit ?_);try simp (maxSteps:=1000000)(disch:=(first|omega|(simp only [qI,qJ,qK]<;>omega)|exact qL _)) only [go_sem,↓reduceIte,n0,reduceCtorEq,n1,n2,n3,n4,n5,i0,i1,i2,i3,i4,i5,i6,i7,h5r])
  repeat refine W.seq ?_
  refine W.normJ (RowQ [(6,.slice ab body.length cb)] 15 (fun v w' => OwnBy 5 w.heap.size w' v (s9 ++ if flex = true then [0] else []) ∧ Ext w w')) ?_ ?_
  · skip
    cases flex with
    | false =>
      repeat ((first | refine qA rfl ?_|refine qB ?_|refine qC rfl ?_|refine qD ?_|refine qE ?_|refine qF ?_|refine qG ?_|refine qH ?_);try simp (maxSteps:=1000000)(disch:=(first|omega|(simp only [qI,qJ,qK]<;>omega)|exact qL _)) only [go_sem,↓reduceIte,n0,reduceCtorEq,n1,n2,n3,n4,n5,i0,i1,i2,i3,i4,i5,i6,i7,h5r])
      have ho9' : OwnBy 5 w.heap.size w9 (.slice oa9 s9.length oc9) (s9 ++ if false = true then [0] else []) := by simpa using ho9
      exact ⟨(by simp (maxSteps:=1000000)(disch:=(first|omega|(simp only [qI,qJ,qK]<;>omega)|exact qL _)) only [go_sem,↓reduceIte,n0,reduceCtorEq,n1,n2,n3,n4,n5,i0,i1,i2,i3,i4,i5,i6,i7,Holds_nil,Holds_cons,h6r]),_,(by simp (maxSteps:=1000000)(disch:=(first|omega|(simp only [qI,qJ,qK]<;>omega)|exact qL _)) only [go_sem,↓reduceIte,n0,reduceCtorEq,n1,n2,n3,n4,n5,i0,i1,i2,i3,i4,i5,i6,i7,h15];all_goals rfl),ho9',hE9⟩
    | true =>
      repeat ((first | refine qA rfl ?_|refine qB ?_|refine qC rfl ?_|refine qD ?_|refine qE ?_|refine qF ?_|refine qG ?_|refine qH ?_);try simp (maxSteps:=1000000)(disch:=(first|omega|(simp only [qI,qJ,qK]<;>omega)|exact qL _)) only [go_sem,↓reduceIte,n0,reduceCtorEq,n1,n2,n3,n4,n5,i0,i1,i2,i3,i4,i5,i6,i7,h5r,h15])
      try simp only [List.cons_append,List.nil_append,List.append_nil]
      have hxA : Ext w9 (w9.alloc (.cells #[.int .u8 0] 5)) := Upd.alloc (Upd.refl _ _) _
      have hEA := hE9.trans hxA
      have hsA : Src (w9.alloc (.cells #[.int .u8 0] 5)) 1 (.slice (some ⟨w9.heap.size,0,none⟩) 1 1) 1 (([0] : List UInt8).map byteV) := Src.blk (fr := (0,0)) (T := 5) (blk_alloc_new rfl) rfl rfl
      have hoA := ho9.alloc (.cells #[.int .u8 0] 5)
      generalize (w9.alloc (.cells #[.int .u8 0] 5)) = wA at *
      refine wp_append ap_24_24 (B := w.heap.size) (n := (s9).length) (cs := (s9).map byteV) (m := ([0]).length) (news := ([0]).map byteV) (v := .slice oa9 (s9).length oc9) (u := .slice (some ⟨w9.heap.size,0,none⟩) 1 1) (by first | rfl | simp (maxSteps:=1000000)(disch:=(first|omega|(simp only [qI,qJ,qK]<;>omega)|exact qL _)) only [go_sem,↓reduceIte,n0,reduceCtorEq,n1,n2,n3,n4,n5,i0,i1,i2,i3,i4,i5,i6,i7]) (by first | rfl | simp (maxSteps:=1000000)(disch:=(first|omega|(simp only [qI,qJ,qK]<;>omega)|exact qL _)) only [go_sem,↓reduceIte,n0,reduceCtorEq,n1,n2,n3,n4,n5,i0,i1,i2,i3,i4,i5,i6,i7]) (hoA) (flat_bytes _) (hsA) (by have := (hEA).size;omega) (by first | omega | (simp only [List.length_append,fixedS_len,List.length_cons,List.length_nil];omega)) ?_
      intro v10 w10 h10 hU10 hfr10
      have ho10 : OwnBy 5 w.heap.size w10 v10 ((s9) ++ ([0])) := OwnBy.app (s := s9) (t := [0]) h10 rfl
      have hE10 : Ext w w10 := (hEA).more hU10 fun b hb h => by have := Own.above (hoA) h;omega
      have hz10 := hE10.size
      obtain ⟨oa10,oc10,rfl,_⟩ := Own.shape ho10
      try simp (maxSteps:=1000000)(disch:=(first|omega|(simp only [qI,qJ,qK]<;>omega)|exact qL _)) only [go_sem,↓reduceIte,n0,reduceCtorEq,n1,n2,n3,n4,n5,i0,i1,i2,i3,i4,i5,i6,i7,ew]
      repeat ((first | refine qA rfl ?_|refine qB ?_|refine qC rfl ?_|refine qD ?_|refine qE ?_|refine qF ?_|refine qG ?_|refine qH ?_);try simp (maxSteps:=1000000)(disch:=(first|omega|(simp only [qI,qJ,qK]<;>omega)|exact qL _)) only [go_sem,↓reduceIte,n0,reduceCtorEq,n1,n2,n3,n4,n5,i0,i1,i2,i3,i4,i5,i6,i7])
      exact ⟨(by simp (maxSteps:=1000000)(disch:=(first|omega|(simp only [qI,qJ,qK]<;>omega)|exact qL _)) only [go_sem,↓reduceIte,n0,reduceCtorEq,n1,n2,n3,n4,n5,i0,i1,i2,i3,i4,i5,i6,i7,Holds_nil,Holds_cons,h6r]),_,(by simp (maxSteps:=1000000)(disch:=(first|omega|(simp only [qI,qJ,qK]<;>omega)|exact qL _)) only [go_sem,↓reduceIte,n0,reduceCtorEq,n1,n2,n3,n4,n5,i0,i1,i2,i3,i4,i5,i6,i7]),ho10,hE10⟩
  clear h15 h6r h5r ho9
  rintro ρ w11 ⟨⟨h6r,-⟩,v11,h15,ho11,hE11⟩
  try simp (maxSteps:=1000000)(disch:=(first|omega|(simp only [qI,qJ,qK]<;>omega)|exact qL _)) only [go_sem,↓reduceIte,n0,reduceCtorEq,n1,n2,n3,n4,n5,i0,i1,i2,i3,i4,i5,i6,i7]
  have hl11 : (s9 ++ if flex = true then [0] else []).length ≤ 32778 := by rw [List.length_append];split <;> simp only [List.length_cons,List.length_nil] <;> omega
  generalize hs11 : (s9 ++ if flex = true then [0] else []) = s11 at *
  have hz11 := hE11.size
  obtain ⟨oa11,oc11,rfl,_⟩ := Own.shape ho11
  repeat ((first | refine qA rfl ?_|refine qB ?_|refine qC rfl ?_|refine qD ?_|refine qE ?_|refine qF ?_|refine qG ?_|refine qH ?_);try simp (maxSteps:=1000000)(disch:=(first|omega|(simp only [qI,qJ,qK]<;>omega)|exact qL _)) only [go_sem,↓reduceIte,n0,reduceCtorEq,n1,n2,n3,n4,n5,i0,i1,i2,i3,i4,i5,i6,i7,h15,h6r])
  refine wp_append ap_24_24 (B := w.heap.size) (n := (s11).length) (cs := (s11).map byteV) (m := (body).length) (news := (body).map byteV) (v := .slice oa11 (s11).length oc11) (u := .slice ab body.length cb) (by first | rfl | simp (maxSteps:=1000000)(disch:=(first|omega|(simp only [qI,qJ,qK]<;>omega)|exact qL _)) only [go_sem,↓reduceIte,n0,reduceCtorEq,n1,n2,n3,n4,n5,i0,i1,i2,i3,i4,i5,i6,i7]) (by first | rfl | simp (maxSteps:=1000000)(disch:=(first|omega|(simp only [qI,qJ,qK]<;>omega)|exact qL _)) only [go_sem,↓reduceIte,n0,reduceCtorEq,n1,n2,n3,n4,n5,i0,i1,i2,i3,i4,i5,i6,i7]) (ho11) (flat_bytes _) (((hb.keep (Ext.keeps hE11 _)).src)) (by have := (hE11).size;omega) (by first | omega | (simp only [List.length_append,fixedS_len,List.length_cons,List.length_nil];omega)) ?_
  intro v12 w12 h12 hU12 hfr12
  have ho12 : OwnBy 5 w.heap.size w12 v12 ((s11) ++ (body)) := OwnBy.app (s := s11) (t := body) h12 rfl
  have hE12 : Ext w w12 := (hE11).more hU12 fun b hb h => by have := Own.above (ho11) h;omega
  have hz12 := hE12.size
  obtain ⟨oa12,oc12,rfl,_⟩ := Own.shape ho12
  try simp (maxSteps:=1000000)(disch:=(first|omega|(simp only [qI,qJ,qK]<;>omega)|exact qL _)) only [go_sem,↓reduceIte,n0,reduceCtorEq,n1,n2,n3,n4,n5,i0,i1,i2,i3,i4,i5,i6,i7,ew]
  repeat ((first | refine qA rfl ?_|refine qB ?_|refine qC rfl ?_|refine qD ?_|refine qE ?_|refine qF ?_|refine qG ?_|refine qH ?_);try simp (maxSteps:=1000000)(disch:=(first|omega|(simp only [qI,qJ,qK]<;>omega)|exact qL _)) only [go_sem,↓reduceIte,n0,reduceCtorEq,n1,n2,n3,n4,n5,i0,i1,i2,i3,i4,i5,i6,i7])
  have hl12 : (s11 ++ body).length ≤ 2 ^ 41 := by rw [List.length_append];omega
  generalize hs12 : s11 ++ body = s12 at *
  refine (Fixed_fn ((s12.length : Int)) 4 (by omega) w12).mono ?_
  rintro v13 w13 ⟨hf13,hx13⟩
  obtain ⟨oa13,oc13,rfl,_⟩ := Own.shape hf13
  have hE13 : Ext w w13 := (hE12).trans hx13
  have hz13 := hE13.size
  try simp (maxSteps:=1000000)(disch:=(first|omega|(simp only [qI,qJ,qK]<;>omega)|exact qL _)) only [go_sem,↓reduceIte,n0,reduceCtorEq,n1,n2,n3,n4,n5,i0,i1,i2,i3,i4,i5,i6,i7,ew]
  have hv12 := (Own.bytes (ok := AnyB) ho12 fun _ _ => trivial).keep (Ext.keeps hx13 _)
  refine wp_append ap_24_24 (B := w.heap.size) (n := (fixedS (s12.length : Int) 4).length) (cs := (fixedS (s12.length : Int) 4).map byteV) (m := (s12).length) (news := (s12).map byteV) (v := .slice oa13 (fixedS (s12.length : Int) 4).length oc13) (u := .slice oa12 (s12).length oc12) (by first | rfl | simp (maxSteps:=1000000)(disch:=(first|omega|(simp only [qI,qJ,qK]<;>omega)|exact qL _)) only [go_sem,↓reduceIte,n0,reduceCtorEq,n1,n2,n3,n4,n5,i0,i1,i2,i3,i4,i5,i6,i7]) (by first | rfl | simp (maxSteps:=1000000)(disch:=(first|omega|(simp only [qI,qJ,qK]<;>omega)|exact qL _)) only [go_sem,↓reduceIte,n0,reduceCtorEq,n1,n2,n3,n4,n5,i0,i1,i2,i3,i4,i5,i6,i7]) ((Own.mono hf13 hz12)) (flat_bytes _) (hv12.src) (by have := (hE13).size;omega) (by first | omega | (simp only [List.length_append,fixedS_len,List.length_cons,List.length_nil];omega)) ?_
  intro v14 w14 h14 hU14 hfr14
  have ho14 : OwnBy 5 w.heap.size w14 v14 ((fixedS (s12.length : Int) 4) ++ (s12)) := OwnBy.app (s := fixedS (s12.length : Int) 4) (t := s12) h14 rfl
  have hE14 : Ext w w14 := (hE13).more hU14 fun b hb h => by have := Own.above ((Own.mono hf13 hz12)) h;omega
  have hz14 := hE14.size
  obtain ⟨oa14,oc14,rfl,_⟩ := Own.shape ho14
  try simp (maxSteps:=1000000)(disch:=(first|omega|(simp only [qI,qJ,qK]<;>omega)|exact qL _)) only [go_sem,↓reduceIte,n0,reduceCtorEq,n1,n2,n3,n4,n5,i0,i1,i2,i3,i4,i5,i6,i7,ew]
  repeat ((first | refine qA rfl ?_|refine qB ?_|refine qC rfl ?_|refine qD ?_|refine qE ?_|refine qF ?_|refine qG ?_|refine qH ?_);try simp (maxSteps:=1000000)(disch:=(first|omega|(simp only [qI,qJ,qK]<;>omega)|exact qL _)) only [go_sem,↓reduceIte,n0,reduceCtorEq,n1,n2,n3,n4,n5,i0,i1,i2,i3,i4,i5,i6,i7])
  have hfin : s12 = frameB key ver number (!has) id flex body := by rw [← hs12,← hs11,← hs9,← hs5];simp only [frameB,List.append_assoc]
  refine ⟨?_,hE14⟩
  rw [show frameS key ver number (!has) id flex body = fixedS (s12.length : Int) 4 ++ s12 by rw [hfin];rfl]
  exact ho14
end Ms

namespace Ms
open Go

def numS (k n : Int) : Int := if k = 0 then n % 2 else wrapN k n
def DfF (D : List Fld → Tree → Prop) (f : Fld) (x : Tree) : Prop :=
  if f.kind = 8 then x.null = decide (0 ≤ f.null) ∧ x.s = []
  else if f.kind = 7 then x.s = uuidS []
  else if f.kind = 9 ∨ f.kind = 11 then x.s = [] ∧ x.l = []
  else if f.kind = 10 then (0 ≤ f.null → x.null = true) ∧ (f.null < 0 → D f.sub x)
  else x.n = numS f.kind f.df
def DfP : Nat → List Fld → Tree → Prop
  | 0,_,_ => False
  | d + 1,fs,g => g.u = [] ∧ ∀ i (h : i < fs.length),DfF (DfP d) fs[i] (g.at i)
def Told1 (T : List Fld → Tree → Tree → Prop) (kind : Int) (sub : List Fld) (t g : Tree) : Prop :=
  if kind = 8 ∨ kind = 9 then g.s = wholeS t.s
  else if kind = 7 then g.s = uuidS t.s
  else if kind = 10 then T sub t g
  else g.n = numS kind t.n
def ToldF (T : List Fld → Tree → Tree → Prop) (v : Int) (f : Fld) (t g : Tree) : Prop :=
  ((f.kind = 8 ∨ f.kind = 10 ∨ mayS f v = true) → g.null = nullS f v t) ∧
  (nullS f v t = false → if f.kind = 11 then g.l.length = (thingsS t.l).length ∧ ∀ i (h : i < (thingsS t.l).length),(f.of = 8 ∨ f.of = 10 → (g.at i).null = false) ∧ Told1 T f.of f.sub (thingsS t.l)[i] (g.at i)
    else Told1 T f.kind f.sub t g)
def liveS (d : Nat) (v : Int) (flex : Bool) (f : Fld) (t : Tree) : Bool := (decide (f.tag < 0) && hasS f v) || (decide (0 ≤ f.tag) && (flex && !(usualS d f t)))
def ToldP : Nat → Int → Bool → List Fld → Tree → Tree → Prop
  | 0,_,_,_,_,_ => False
  | d + 1,v,flex,fs,t,g => g.l.length = fs.length ∧ g.u = (if flex = true then (unknownS fs t.u).map fun u => (u.1,wholeS u.2) else []) ∧
    ∀ i (h : i < fs.length),if liveS (d + 1) v flex fs[i] (t.at i) = true then ToldF (ToldP d v flex) v fs[i] (t.at i) (g.at i) else DfF (DfP d) fs[i] (g.at i)

/-! ### Rows in memory -/
theorem SlR.litO {α : Type} {ok : Blocks} {w : World} {size b : Nat} {fr : Nat × Nat} {T : TypeId} {R : α → List Value → Prop} {xs : List α} {css : List (List Value)} (hok : ok b) (h : blk w b = some (css.flatten.toArray,T,fr)) (hl : ∀ cs ∈ css,cs.length = size) (ha : All2 R xs css) :
    SlR ok w size R (.slice (some ⟨b,0,none⟩) xs.length xs.length) xs := by
  refine ⟨css,⟨some ⟨b,0,none⟩,xs.length,by rw [ha.1],by rw [ha.1];exact Nat.le_refl _,hl,.inr ⟨_,rfl,rfl,hok,_,h,fun i hi => ?_⟩⟩,ha⟩
  simp only [Nat.zero_add,List.getElem?_toArray]
theorem All2.one {α β : Type} {R : α → β → Prop} {x : α} {y : β} (h : R x y) : All2 R [x] [y] :=
  ⟨rfl,fun i h1 h2 => by
    obtain rfl : i = 0 := by simp at h1;exact h1
    exact h⟩
theorem FldsV.one {w : World} {b : Nat} {fr : Nat × Nat} {T : TypeId} {f : Fld} {vs : Value} (h : blk w b = some (#[.int .i64 f.kind,.int .i64 f.fr,.int .i64 f.to,.int .i64 f.null,.int .i64 f.tag,.int .i64 f.df,.int .i64 f.of,vs],T,fr)) (hs : FldsV AnyB w vs f.sub) : FldsV AnyB w (.slice (some ⟨b,0,Option.none⟩) 1 1) [f] :=
  SlR.litO (css := [[.int .i64 f.kind,.int .i64 f.fr,.int .i64 f.to,.int .i64 f.null,.int .i64 f.tag,.int .i64 f.df,.int .i64 f.of,vs]]) trivial h (fun cs hm => by simp only [List.mem_singleton] at hm;subst hm;rfl) (All2.one (by cases f;exact FldC.intro hs))
theorem TreesV.one {w : World} {b : Nat} {fr : Nat × Nat} {T : TypeId} {x : Tree} {c0 c1 c2 c3 c4 : Value} (h : blk w b = some (#[c0,c1,c2,c3,c4],T,fr)) (hx : TreeC AnyB w x [c0,c1,c2,c3,c4]) : TreesV AnyB w (.slice (some ⟨b,0,Option.none⟩) 1 1) [x] :=
  SlR.litO (css := [[c0,c1,c2,c3,c4]]) trivial h (fun cs hm => by simp only [List.mem_singleton] at hm;subst hm;rfl) (All2.one hx)
theorem wr16 (s : List UInt8) : wrArr (List.replicate (16 * 1) (Value.int IntKind.u8 0)).toArray 0 ((s.take 16).map byteV) = ((uuidS s).map byteV).toArray := by
  apply Array.ext_getElem?
  intro k
  rw [wrArr_get]
  unfold uuidS
  simp only [List.size_toArray,List.length_replicate,List.getElem?_toArray,List.length_map,List.length_take,List.map_append,List.map_replicate,Nat.mul_one]
  have hb0 : byteV 0 = Value.int IntKind.u8 0 := rfl
  rw [hb0]
  simp only [List.getElem?_append,List.length_map,List.length_take,List.getElem?_replicate]
  by_cases h1 : k < min 16 s.length
  · rw [if_pos (by omega),if_pos h1];rfl
  · rw [if_neg (by omega),if_neg h1]
    by_cases h2 : k < 16
    · rw [if_pos h2,if_pos (by omega)]
    · rw [if_neg h2,if_neg (by omega)]
theorem OwnE.tags {B : Nat} {w : World} {E : TypeId} {v : Value} {css : List (List Value)} {ts : List TagD} {ok : Blocks} (h : OwnE B w E 2 v css) (ha : All2 (TagC ok w) ts css) : TagsV AnyB w v ts :=
  ⟨css,h.sl fun _ _ => trivial,ha.imp fun _ _ h => h.weaken fun _ _ _ => trivial⟩
theorem W.regO {P : Program} {n id : Nat} {ops : Array Oper} {Q : Exit → Regs → World → Prop} {ρ : Regs} {w : World} (k : Nat) (hf : fitsL n ops.toList = true)
    (h : ∀ O DD,O = ops → DD = ops.toList.drop k → WPsq P O (ops.toList.take k ++ DD) (Q .normal) ρ w) : W P n (.region id ops false) Q ρ w := by
  have := h ops _ rfl rfl
  rw [List.take_append_drop] at this
  exact W.regR hf this
end Ms

namespace Ms
open Nat renaming reduceEqDiff → n0,reduceAdd → n1,reduceMul → n2,reduceSub → n3,reduceLT → n4,reduceLeDiff → n5
open Int renaming reduceEq → i0,reduceLT → i1,reduceLE → i2,reduceNeg → i3,reduceAdd → i4,reduceSub → i5,reduceMul → i6,reduceToNat → i7
set_option maxRecDepth 8000
set_option maxHeartbeats 24000000
open Go Go.Proofs Go.Shelf
attribute [local congr] W_congr WPsq_congr WPp_congr optK_congr addrK_congr intK_congr boolK_congr sliceK_congr tupleK_congr funcK_congr Fn_congr rawK_congr takeK_congr stepK_congr convK_congr aggK_congr

theorem okF_one {d : Nat} {fs : List Fld} (h : okF d fs = true) {f : Fld} (hf : f ∈ fs) : okF d [f] = true := by
  obtain ⟨e,rfl,hB,hok⟩ := okF_el h hf
  simp only [okF,List.all_cons,List.all_nil,Bool.and_true,Bool.and_eq_true,hok,and_true]
  exact ⟨rfl,decide_eq_true hB⟩

end Ms

namespace Ms
open Go.World renaming size_alloc → qI
open Ms renaming size_wr → qJ,size_drew → qK,not_noB → qL
open W renaming seqR → qA,seq → qB,regR → qC,condK → qD,block → qE,skip → qF,ret → qG,exit → qH
open Nat renaming reduceEqDiff → n0,reduceAdd → n1,reduceMul → n2,reduceSub → n3,reduceLT → n4,reduceLeDiff → n5
open Int renaming reduceEq → i0,reduceLT → i1,reduceLE → i2,reduceNeg → i3,reduceAdd → i4,reduceSub → i5,reduceMul → i6,reduceToNat → i7
set_option maxRecDepth 8000
set_option maxHeartbeats 24000000
open Go Go.Proofs Go.Shelf
attribute [local congr] W_congr WPsq_congr WPp_congr optK_congr addrK_congr intK_congr boolK_congr sliceK_congr tupleK_congr funcK_congr Fn_congr rawK_congr takeK_congr stepK_congr convK_congr aggK_congr

theorem Flexible_fn (vs : Value) (F ver : Int) (hv : flat vs = true) (w : World) : Fn Tryd.prog 13 #[.agg #[vs,.int .i64 F],.int .i64 ver] w fun r w' => r = .bool (flexB F ver) ∧ Ext w w' := by
  refine fn_of_W Tryd.func13 rfl Tryd.results13 Tryd.ntmps13 rfl ?_
  by_cases h1 : 0 ≤ F
  · by_cases h2 : F ≤ ver
    · repeat ((first | refine qA rfl ?_|refine qB ?_|refine qC rfl ?_|refine qD ?_|refine qE ?_|refine qF ?_|refine qG ?_|refine qH ?_);try simp (maxSteps:=1000000)(disch:=(first|omega|(simp only [qI,qJ,qK]<;>omega)|exact qL _)) only [go_sem,↓reduceIte,n0,reduceCtorEq,n1,n2,n3,n4,n5,i0,i1,i2,i3,i4,i5,i6,i7,hv,cellsAt_two])
      exact ⟨by simp [flexB,h1,h2],Upd.alloc (Upd.refl _ _) _⟩
    · repeat ((first | refine qA rfl ?_|refine qB ?_|refine qC rfl ?_|refine qD ?_|refine qE ?_|refine qF ?_|refine qG ?_|refine qH ?_);try simp (maxSteps:=1000000)(disch:=(first|omega|(simp only [qI,qJ,qK]<;>omega)|exact qL _)) only [go_sem,↓reduceIte,n0,reduceCtorEq,n1,n2,n3,n4,n5,i0,i1,i2,i3,i4,i5,i6,i7,hv,cellsAt_two])
      exact ⟨by simp [flexB,h2],Upd.alloc (Upd.refl _ _) _⟩
  · repeat ((first | refine qA rfl ?_|refine qB ?_|refine qC rfl ?_|refine qD ?_|refine qE ?_|refine qF ?_|refine qG ?_|refine qH ?_);try simp (maxSteps:=1000000)(disch:=(first|omega|(simp only [qI,qJ,qK]<;>omega)|exact qL _)) only [go_sem,↓reduceIte,n0,reduceCtorEq,n1,n2,n3,n4,n5,i0,i1,i2,i3,i4,i5,i6,i7,hv,cellsAt_two])
    exact ⟨by simp [flexB,h1],Upd.alloc (Upd.refl _ _) _⟩

end Ms

