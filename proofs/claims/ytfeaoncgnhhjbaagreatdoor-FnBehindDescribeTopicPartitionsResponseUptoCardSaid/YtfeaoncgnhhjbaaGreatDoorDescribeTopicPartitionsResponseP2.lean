/- A part of the proof: see the last text. -/
import Derived.Test.YtfeaoncgnhhjbaaGreatDoorDescribeTopicPartitionsResponseP0
import Derived.Test.YtfeaoncgnhhjbaaGreatDoorDescribeTopicPartitionsResponseP1
set_option linter.unusedSimpArgs false
set_option linter.unusedVariables false
namespace Ms
open Go.World renaming size_alloc → qI
open Ms renaming size_wr → qJ,size_drew → qK,not_noB → qL
open W renaming seqR → qA,seq → qB,regR → qC,condK → qD,block → qE,skip → qF,ret → qG,exit → qH
open Nat renaming reduceEqDiff → n0,reduceAdd → n1,reduceMul → n2,reduceSub → n3,reduceLT → n4,reduceLeDiff → n5
open Int renaming reduceEq → i0,reduceLT → i1,reduceLE → i2,reduceNeg → i3,reduceAdd → i4,reduceSub → i5,reduceMul → i6,reduceToNat → i7
set_option maxRecDepth 8000
open Go Go.Proofs Go.Shelf
attribute [local congr] W_congr WPsq_congr WPp_congr optK_congr addrK_congr intK_congr boolK_congr sliceK_congr tupleK_congr funcK_congr Fn_congr rawK_congr takeK_congr stepK_congr convK_congr aggK_congr

theorem ReadFromQ_fn {d : Nat} {ok : Blocks} {ver : Int} {ev : Value} (hlo : 0 ≤ ver) (hhi : ver ≤ 0) (w : World) {vb : Nat} (src : Value) (s : List UInt8) (hv : blk w vb = some (#[.int .i16 ver,.int .i32 0,.slice none 0 0,.pointer none,.map none],63,(0,0))) (hsrc : BytesV ok w src s) (hok0 : ∀ b,ok b → b < w.heap.size ∧ b ≠ vb) (hG : Glo ev w) (hgv : ¬ 0 = vb ∧ ¬ 1 = vb) :
    Fn Tryz.prog 18 #[.pointer (some ⟨vb,0,none⟩),src] w (ReadQ 63 ok ver (d + 3) fsr_Q vb w (rdP (d + 3) ver (flexB 0 ver) fsr_Q (some s)) ev) := by
  obtain ⟨sa,sc,rfl,_⟩ := hsrc.shape
  refine fn_of_W Tryz.func18 rfl Tryz.results18 Tryz.ntmps18 rfl ?_
  repeat ((first | refine qA rfl ?_|apply qB|refine qC rfl ?_|apply qD|apply qE|apply qF|apply qG|apply qH);try simp (maxSteps:=1000000)(disch:=(first|omega|(simp only [qI,qJ,qK]<;>omega)|exact qL _)) only [go_sem,↓reduceIte,n0,reduceCtorEq,n1,n2,n3,n4,n5,i0,i1,i2,i3,i4,i5,i6,i7])
  have hcl : (0 ≤ ver ∧ ver ≤ 0) := by omega
  rcases hcl with ⟨h1,h2⟩
  · have hfl : flexB 0 ver = true := by simp only [flexB,Bool.and_eq_true,decide_eq_true_eq];omega
    rw [hfl]
    refine (readQ_0 (d := d) h1 h2 w _ s hv hsrc hok0 hG hgv).mono ?_
    rintro r5 w5 h5
    repeat ((first | refine qA rfl ?_|apply qB|refine qC rfl ?_|apply qD|apply qE|apply qF|apply qG|apply qH);try simp (maxSteps:=1000000)(disch:=(first|omega|(simp only [qI,qJ,qK]<;>omega)|exact qL _)) only [go_sem,↓reduceIte,n0,reduceCtorEq,n1,n2,n3,n4,n5,i0,i1,i2,i3,i4,i5,i6,i7])
    all_goals exact h5

end Ms

