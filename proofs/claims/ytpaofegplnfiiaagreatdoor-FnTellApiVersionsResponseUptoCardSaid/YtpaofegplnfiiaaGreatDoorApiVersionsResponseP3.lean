/- A part of the proof: see the last text. -/
import Derived.Test.YtpaofegplnfiiaaGreatDoorC05
import Derived.Test.YtpaofegplnfiiaaGreatDoorApiVersionsResponseP0
import Derived.Test.YtpaofegplnfiiaaGreatDoorApiVersionsResponseP1
import Derived.Test.YtpaofegplnfiiaaGreatDoorApiVersionsResponseP2
set_option linter.unusedSimpArgs false
set_option linter.unusedVariables false
namespace Ms
open Go.World renaming size_alloc → qI
open Ms renaming size_wr → qJ,size_drew → qK,not_noB → qL
open W renaming seqR → qA,seq → qB,regR → qC,condK → qD,block → qE,skip → qF,ret → qG,exit → qH
open Nat renaming reduceEqDiff → n0,reduceAdd → n1,reduceMul → n2,reduceSub → n3,reduceLT → n4,reduceLeDiff → n5
open Int renaming reduceEq → i0,reduceLT → i1,reduceLE → i2,reduceNeg → i3,reduceAdd → i4,reduceSub → i5,reduceMul → i6,reduceToNat → i7
set_option maxRecDepth 8000
open Go Go.Proofs Go.Shelf
attribute [local congr] W_congr WPsq_congr WPp_congr optK_congr addrK_congr intK_congr boolK_congr sliceK_congr tupleK_congr funcK_congr Fn_congr rawK_congr takeK_congr stepK_congr convK_congr aggK_congr

theorem ReadFromQ_fn {d:Nat} {ok:Blocks} {ver:Int} {ev:Value} (hlo:0≤ver) (hhi:ver≤5) (w:World) {vb:Nat} (src:Value) (s:List UInt8) (hv:blk w vb=some (#[.int .i16 ver,.int .i16 0,.slice none 0 0,.int .i32 0,.slice none 0 0,.int .i64 (-1),.slice none 0 0,.bool false,.map none],108,(0,0))) (hsrc:BytesV ok w src s) (dQ:∀ b,ok b→b < w.heap.size∧b≠vb) (hG:Glo ev w) (hgv:¬ 0=vb∧¬ 1=vb) (hev:∃ T p,ev = .iface T p) (honce:flexB 3 ver=true→onceM (d+1) ver fs_Q (some s)) :
  Fn Tryz.prog 40 #[.pointer (some ⟨vb,0,none⟩),src] w (ReadQ 108 ok ver (d+2) fs_Q vb w (rdM (d+1) ver (flexB 3 ver) fs_Q (some s)) ev):=by
 obtain ⟨sa,sc,rfl,_⟩:=hsrc.shape
 refine fn_of_W Tryz.func40 rfl Tryz.results40 Tryz.ntmps40 rfl ?_
 repeat ((first|refine qA rfl ?_|apply qB|refine qC rfl ?_|apply qD|apply qE|apply qF|apply qG|apply qH);try simp (disch:=(first|omega|(simp only [qI,qJ,qK]<;>omega)|exact qL _)) only [go_sem,↓reduceIte,n0,reduceCtorEq,n1,n2,n3,n4,n5,i0,i1,i2,i3,i4,i5,i6,i7])
 have hcl:(0≤ver∧ver≤0)∨(1≤ver∧ver≤2)∨(3≤ver∧ver≤5):=by omega
 rcases hcl with ⟨h1,h2⟩|⟨h1,h2⟩|⟨h1,h2⟩
 ·have hfl:flexB 3 ver=false:=by simp only [flexB,Bool.and_eq_false_iff,decide_eq_false_iff_not];omega
  rw [hfl]
  refine (readQ_0 (d:=d) h1 h2 w _ s hv hsrc dQ hG hgv hev).mono ?_
  rintro r5 w5 h5
  repeat ((first|refine qA rfl ?_|apply qB|refine qC rfl ?_|apply qD|apply qE|apply qF|apply qG|apply qH);try simp (disch:=(first|omega|(simp only [qI,qJ,qK]<;>omega)|exact qL _)) only [go_sem,↓reduceIte,n0,reduceCtorEq,n1,n2,n3,n4,n5,i0,i1,i2,i3,i4,i5,i6,i7])
  all_goals exact h5
 ·have hfl:flexB 3 ver=false:=by simp only [flexB,Bool.and_eq_false_iff,decide_eq_false_iff_not];omega
  rw [hfl]
  refine (readQ_1 (d:=d) h1 h2 w _ s hv hsrc dQ hG hgv hev).mono ?_
  rintro r5 w5 h5
  repeat ((first|refine qA rfl ?_|apply qB|refine qC rfl ?_|apply qD|apply qE|apply qF|apply qG|apply qH);try simp (disch:=(first|omega|(simp only [qI,qJ,qK]<;>omega)|exact qL _)) only [go_sem,↓reduceIte,n0,reduceCtorEq,n1,n2,n3,n4,n5,i0,i1,i2,i3,i4,i5,i6,i7])
  all_goals exact h5
 ·have hfl:flexB 3 ver=true:=by simp only [flexB,Bool.and_eq_true,decide_eq_true_eq];omega
  rw [hfl]
  refine (readQ_2 (d:=d) h1 h2 w _ s hv hsrc dQ hG hgv hev (honce hfl)).mono ?_
  rintro r5 w5 h5
  repeat ((first|refine qA rfl ?_|apply qB|refine qC rfl ?_|apply qD|apply qE|apply qF|apply qG|apply qH);try simp (disch:=(first|omega|(simp only [qI,qJ,qK]<;>omega)|exact qL _)) only [go_sem,↓reduceIte,n0,reduceCtorEq,n1,n2,n3,n4,n5,i0,i1,i2,i3,i4,i5,i6,i7])
  all_goals exact h5

end Ms

