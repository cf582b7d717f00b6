/- A part of the proof: see the last text. -/
import Derived.Test.YtfeaoncgnhhjbaeGreatDoorC05
import Derived.Test.YtfeaoncgnhhjbaeGreatDoorFetchRequestP0
import Derived.Test.YtfeaoncgnhhjbaeGreatDoorFetchRequestP1
import Derived.Test.YtfeaoncgnhhjbaeGreatDoorFetchRequestP2
set_option linter.unusedSimpArgs false
set_option linter.unusedVariables false
namespace Ms
open Go.World renaming size_alloc → qI
open Ms renaming size_wr → qJ,size_drew → qK,not_noB → qL
open W renaming seqF → qA,seq → qB,regF → qC,condK → qD,block → qE,skip → qF,ret → qG,exit → qH
set_option maxRecDepth 8000
open Go Go.Proofs Go.Shelf
attribute [local congr] W_congr WPsq_congr WPp_congr optK_congr addrK_congr intK_congr boolK_congr sliceK_congr tupleK_congr funcK_congr Fn_congr rawK_congr takeK_congr stepK_congr convK_congr aggK_congr

theorem ReadFromQ_fn {d:Nat} {ok:Blocks} {ver:Int} {ev:Value} (hlo:0≤ver) (hhi:ver≤18) (w:World) {vb:Nat} (src:Value) (s:List UInt8) (hv:blk w vb=some (#[.int .i16 ver,.pointer none,.int .i32 (-1),.int .i32 (-1),.int .i64 (-1),.map none,.int .i32 0,.int .i32 0,.int .i32 2147483647,.int .i8 0,.int .i32 0,.int .i32 (-1),.slice none 0 0,.slice none 0 0,.string ByteArray.empty,.map none],75,(0,0))) (hsrc:BytesV ok w src s) (mY:∀ b,ok b→b < w.heap.size∧b≠vb) (hG:Glo ev w) (hgv:¬ 0=vb∧¬ 1=vb) (hev:∃ T p,ev = .iface T p) :
  Fn Tryz.prog 19 #[.pointer (some ⟨vb,0,none⟩),src] w (ReadQ 75 ok ver (d+3) fs_Q vb w (rdQ (d+3) ver (flexB 12 ver) fs_Q (some s)) ev):=by
 obtain ⟨sa,sc,rfl,_⟩:=hsrc.shape
 refine fn_of_W Tryz.func19 rfl Tryz.results19 Tryz.ntmps19 rfl ?_
 repeat ((first|refine qA ?_|apply qB|refine qC ?_|apply qD|apply qE|apply qF|apply qG|apply qH);try simp (disch:=omega) only [go_sem])
 have hcl:(0≤ver∧ver≤11)∨(12≤ver∧ver≤18):=by omega
 rcases hcl with ⟨h1,h2⟩|⟨h1,h2⟩
 ·have hfl:flexB 12 ver=false:=by simp only [flexB,Bool.and_eq_false_iff,decide_eq_false_iff_not];omega
  rw [hfl]
  refine (readQ_0 (d:=d) h1 h2 w _ s hv hsrc mY hG hgv hev).mono ?_
  rintro r5 w5 h5
  repeat ((first|refine qA ?_|apply qB|refine qC ?_|apply qD|apply qE|apply qF|apply qG|apply qH);try simp (disch:=omega) only [go_sem])
  all_goals exact h5
 ·have hfl:flexB 12 ver=true:=by simp only [flexB,Bool.and_eq_true,decide_eq_true_eq];omega
  rw [hfl]
  refine (readQ_1 (d:=d) h1 h2 w _ s hv hsrc mY hG hgv hev).mono ?_
  rintro r5 w5 h5
  repeat ((first|refine qA ?_|apply qB|refine qC ?_|apply qD|apply qE|apply qF|apply qG|apply qH);try simp (disch:=omega) only [go_sem])
  all_goals exact h5

end Ms

