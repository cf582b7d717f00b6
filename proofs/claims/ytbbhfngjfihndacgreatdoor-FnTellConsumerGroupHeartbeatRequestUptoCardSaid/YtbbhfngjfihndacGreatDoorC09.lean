/- A part of the proof: see the last text. -/
import Derived.Test.YtbbhfngjfihndacGreatDoorC02
import Derived.Test.YtbbhfngjfihndacGreatDoorC03
import Derived.Test.YtbbhfngjfihndacGreatDoorC05
import Derived.Test.YtbbhfngjfihndacGreatDoorC06
import Derived.Test.YtbbhfngjfihndacGreatDoorC07
import Derived.Test.YtbbhfngjfihndacGreatDoorC08
set_option linter.unusedSimpArgs false
set_option linter.unusedVariables false
namespace Ms
open Go.World renaming size_alloc → qI
open Ms renaming size_wr → qJ,size_drew → qK,not_noB → qL
open W renaming seqR → qA,seq → qB,regR → qC,condK → qD,block → qE,skip → qF,ret → qG,exit → qH
open Nat renaming reduceEqDiff → n0,reduceAdd → n1,reduceMul → n2,reduceSub → n3,reduceLT → n4,reduceLeDiff → n5
open Int renaming reduceEq → i0,reduceLT → i1,reduceLE → i2,reduceNeg → i3,reduceAdd → i4,reduceSub → i5,reduceMul → i6,reduceToNat → i7
set_option maxRecDepth 4000
open Go Go.Proofs Go.Shelf
attribute [local congr] W_congr WPsq_congr WPp_congr optK_congr addrK_congr intK_congr boolK_congr sliceK_congr tupleK_congr funcK_congr Fn_congr rawK_congr takeK_congr stepK_congr convK_congr aggK_congr

theorem textTree_fn {ok:Blocks} (v:Value) (null:Bool) (s:List UInt8) (w:World) (h:PtrText ok w v null s) :
  Fn Tryz.prog 32 #[v] w fun r w'=>(∃ vS,r = .agg #[.int .i64 0,vS,.bool null,.slice none 0 0,.slice none 0 0]∧BytesV (fun b=>w.heap.size≤b) w' vS (if null=true then [] else s))∧Ext w w':=by
 have hE1:Ext w (w.alloc (.cells #[.int .i64 0,.slice none 0 0,.bool false,.slice none 0 0,.slice none 0 0] 37)):=Upd.alloc (Upd.refl _ _) _
 have hb1:blk (w.alloc (.cells #[.int .i64 0,.slice none 0 0,.bool false,.slice none 0 0,.slice none 0 0] 37)) w.heap.size=some (#[.int .i64 0,.slice none 0 0,.bool false,.slice none 0 0,.slice none 0 0],37,(0,0)):=blk_alloc_new rfl
 have hz1:(w.alloc (.cells #[.int .i64 0,.slice none 0 0,.bool false,.slice none 0 0,.slice none 0 0] 37)).heap.size=w.heap.size+1:=World.size_alloc _ _
 refine fn_of_W Tryz.func32 rfl Tryz.results32 Tryz.ntmps32 rfl ?_
 unfold PtrText at h
 cases null with
 | true =>
  rw [if_pos rfl] at h ⊢;subst h
  repeat ((first|refine qA rfl ?_|apply qB|refine qC rfl ?_|apply qD|apply qE|apply qF|apply qG|apply qH);try simp (disch:=(first|omega|(simp only [qI,qJ,qK]<;>omega)|exact qL _)) only [go_sem,↓reduceIte,n0,reduceCtorEq,n1,n2,n3,n4,n5,i0,i1,i2,i3,i4,i5,i6,i7,cellsAt_five])
  refine ⟨⟨_,rfl,BytesV.nil _ _⟩,hE1.wr _ _ (.inl (Nat.le_refl _))⟩
 | false =>
  rw [if_neg (by decide)] at h ⊢
  obtain ⟨b,o,x,rfl,_,hb,hx⟩:=h
  have hbl:=blk_lt hb
  have hb':=hE1.blk_some hb id
  repeat ((first|refine qA rfl ?_|apply qB|refine qC rfl ?_|apply qD|apply qE|apply qF|apply qG|apply qH);try simp (disch:=(first|omega|(simp only [qI,qJ,qK]<;>omega)|exact qL _)) only [go_sem,↓reduceIte,n0,reduceCtorEq,n1,n2,n3,n4,n5,i0,i1,i2,i3,i4,i5,i6,i7,hb,hx])
  generalize (w.alloc (.cells #[.int .i64 0,.slice none 0 0,.bool false,.slice none 0 0,.slice none 0 0] 37))=w1 at *
  refine wp_octets (S:=9) (T:=22) (E:=5) (s:=s) (by kernel_rfl) (by kernel_rfl) (by kernel_rfl) (by first|rfl|simp (disch:=(first|omega|(simp only [qI,qJ,qK]<;>omega)|exact qL _)) only [go_sem,↓reduceIte,n0,reduceCtorEq,n1,n2,n3,n4,n5,i0,i1,i2,i3,i4,i5,i6,i7]) ?_
  intro a k w' hB0 hE
  have hB:=hB0.weaken (ok':=fun b=>w.heap.size+1≤b) fun b _ hk=>by omega
  have hb2:=hE.blk_some hb1 id
  have hz2:=hE.size
  have hfl:=hB.flat
  simp (disch:=(first|omega|(simp only [qI,qJ,qK]<;>omega)|exact qL _)) only [go_sem,↓reduceIte,n0,reduceCtorEq,n1,n2,n3,n4,n5,i0,i1,i2,i3,i4,i5,i6,i7,hb2,hfl]
  repeat ((first|refine qA rfl ?_|apply qB|refine qC rfl ?_|apply qD|apply qE|apply qF|apply qG|apply qH);try simp (disch:=(first|omega|(simp only [qI,qJ,qK]<;>omega)|exact qL _)) only [go_sem,↓reduceIte,n0,reduceCtorEq,n1,n2,n3,n4,n5,i0,i1,i2,i3,i4,i5,i6,i7,hb2,hfl,cellsAt_five])
  refine ⟨⟨_,rfl,?_⟩,(hE1.trans hE).wr _ _ (.inl (Nat.le_refl _))⟩
  exact (hB.keep (((Upd.refl (fun b=>b=w.heap.size) _).wr _ _ (.inr rfl)).keeps fun b _ hk e=>by omega)).weaken fun b _ hk=>by omega

theorem sorted_fn {ok:Blocks} (v:Value) (u:List TagD) (w:World) (h:TagsV ok w v u) (hs:(u.map (·.1)).Pairwise (· < ·)) (hl:u.length≤32767):Fn Tryz.prog 36 #[v] w fun _ w'=>Ext w w':=by
 obtain ⟨a,c,rfl,_⟩:=SlR.shape h
 refine fn_of_W Tryz.func36 rfl Tryz.results36 Tryz.ntmps36 rfl ?_
 repeat ((first|refine qA rfl ?_|apply qB|refine qC rfl ?_|apply qD|apply qE|apply qF|apply qG|apply qH);try simp (disch:=(first|omega|(simp only [qI,qJ,qK]<;>omega)|exact qL _)) only [go_sem,↓reduceIte,n0,reduceCtorEq,n1,n2,n3,n4,n5,i0,i1,i2,i3,i4,i5,i6,i7])
 refine W.exitJ 0 (EndQ [] (fun w'=>Ext w w'))
  (W.loop (LoopL [(5,.int .i64 u.length),(0,.slice a u.length c)] 6 (fun j w'=>j≤u.length∧Ext w w')) (fun ρ _=>u.length - (RowKit.intOf (ρ 6)).toNat) ?_ ?_) ?_
 ·exact ⟨(by simp (disch:=(first|omega|(simp only [qI,qJ,qK]<;>omega)|exact qL _)) only [go_sem,↓reduceIte,n0,reduceCtorEq,n1,n2,n3,n4,n5,i0,i1,i2,i3,i4,i5,i6,i7,Holds_nil,Holds_cons]),0,(by simp (disch:=(first|omega|(simp only [qI,qJ,qK]<;>omega)|exact qL _)) only [go_sem,↓reduceIte,n0,reduceCtorEq,n1,n2,n3,n4,n5,i0,i1,i2,i3,i4,i5,i6,i7];all_goals rfl),Nat.zero_le _,Upd.refl _ _⟩
 ·rintro ρ w1 ⟨⟨h5,h0,-⟩,j,h6,hj,hE⟩
  by_cases hlt:j < u.length
  ·repeat ((first|refine qA rfl ?_|apply qB|refine qC rfl ?_|apply qD|apply qE|apply qF|apply qG|apply qH);try simp (disch:=(first|omega|(simp only [qI,qJ,qK]<;>omega)|exact qL _)) only [go_sem,↓reduceIte,n0,reduceCtorEq,n1,n2,n3,n4,n5,i0,i1,i2,i3,i4,i5,i6,i7,h6,h5,h0])
   refine W.exitJ 2 (EndQ [(6,.int .i64 j),(5,.int .i64 u.length),(0,.slice a u.length c)] (fun w'=>Ext w w')) (W.loop (EndQ [(3,.int .i64 j),(6,.int .i64 j),(5,.int .i64 u.length),(0,.slice a u.length c)] (fun w'=>Ext w w')) (fun _ _=>0) ?_ ?_) ?_
   ·exact ⟨(by simp (disch:=(first|omega|(simp only [qI,qJ,qK]<;>omega)|exact qL _)) only [go_sem,↓reduceIte,n0,reduceCtorEq,n1,n2,n3,n4,n5,i0,i1,i2,i3,i4,i5,i6,i7,Holds_nil,Holds_cons,h6,h5,h0]),hE⟩
   ·rintro ρ w2 ⟨⟨h3,h6,h5,h0,-⟩,hE2⟩
    by_cases hz:j=0
    ·subst hz
     have hc:¬ (0:Int) < ((0:Nat):Int):=by omega
     repeat ((first|refine qA rfl ?_|apply qB|refine qC rfl ?_|apply qD|apply qE|apply qF|apply qG|apply qH);try simp (disch:=(first|omega|(simp only [qI,qJ,qK]<;>omega)|exact qL _)) only [go_sem,↓reduceIte,n0,reduceCtorEq,n1,n2,n3,n4,n5,i0,i1,i2,i3,i4,i5,i6,i7])
     refine W.drawR (.take 0 (.take 1 (.take 2 (.take 3 (.take 4 (.take 5 (.take 6 (.take 7 (.take 8 (.take 9 (.take 10 (.take 11 (.take 12 (.take 13 (.take 14 (.take 15 .done)))))))))))))))) NoB mixed (by kernel_rfl) ?_
     simp (disch:=(first|omega|(simp only [qI,qJ,qK]<;>omega)|exact qL _)) only [go_sem,↓reduceIte,n0,reduceCtorEq,n1,n2,n3,n4,n5,i0,i1,i2,i3,i4,i5,i6,i7,h3,h0,hc]
     repeat ((first|refine qA rfl ?_|apply qB|refine qC rfl ?_|apply qD|apply qE|apply qF|apply qG|apply qH);try simp (disch:=(first|omega|(simp only [qI,qJ,qK]<;>omega)|exact qL _)) only [go_sem,↓reduceIte,n0,reduceCtorEq,n1,n2,n3,n4,n5,i0,i1,i2,i3,i4,i5,i6,i7,h3,h0,hc])
     exact ⟨(by simp (disch:=(first|omega|(simp only [qI,qJ,qK]<;>omega)|exact qL _)) only [go_sem,↓reduceIte,n0,reduceCtorEq,n1,n2,n3,n4,n5,i0,i1,i2,i3,i4,i5,i6,i7,Holds_nil,Holds_cons,h6,h5,h0]),hE2.drew⟩
    ·have hU:=h.keep (hE2.keeps _)
     obtain ⟨_,b,o,x,vv,hb,_,hx,_,hxs,_,q0,q1,_,_,h32⟩:=TagsV.get hU hlt
     obtain ⟨_,b',o',x',vv',hb',_,hx',_,hxs',_,q0',q1',_,_,h32'⟩:=TagsV.get hU (i:=j - 1) (by omega)
     subst hb
     cases hb'
     rw [hx] at hx';cases hx'
     have hle:u[j - 1].1 < u[j].1:=by
      have:=List.pairwise_iff_getElem.1 hs (j - 1) j (by simp;omega) (by simpa using hlt) (by omega)
      simpa using this
     generalize u[j].1=ka at *
     generalize u[j - 1].1=kb at *
     have hc:(0:Int) < (j:Int):=by omega
     have he:(j:Int) - 1=((j - 1:Nat):Int):=by omega
     have hd:¬ (ka:Int) < (kb:Int):=by omega
     repeat ((first|refine qA rfl ?_|apply qB|refine qC rfl ?_|apply qD|apply qE|apply qF|apply qG|apply qH);try simp (disch:=(first|omega|(simp only [qI,qJ,qK]<;>omega)|exact qL _)) only [go_sem,↓reduceIte,n0,reduceCtorEq,n1,n2,n3,n4,n5,i0,i1,i2,i3,i4,i5,i6,i7])
     refine W.drawR (.take 0 (.take 1 (.take 2 (.take 3 (.take 4 (.take 5 (.take 6 (.take 7 (.take 8 (.take 9 (.take 10 (.take 11 (.take 12 (.take 13 (.take 14 (.take 15 .done)))))))))))))))) NoB mixed (by kernel_rfl) ?_
     simp (disch:=(first|omega|(simp only [qI,qJ,qK]<;>omega)|exact qL _)) only [go_sem,↓reduceIte,n0,reduceCtorEq,n1,n2,n3,n4,n5,i0,i1,i2,i3,i4,i5,i6,i7,h3,h0,hc,he,hx,q0,q0',hd,Int.toNat_natCast]
     repeat ((first|refine qA rfl ?_|apply qB|refine qC rfl ?_|apply qD|apply qE|apply qF|apply qG|apply qH);try simp (disch:=(first|omega|(simp only [qI,qJ,qK]<;>omega)|exact qL _)) only [go_sem,↓reduceIte,n0,reduceCtorEq,n1,n2,n3,n4,n5,i0,i1,i2,i3,i4,i5,i6,i7,h3,h0,hc,he,hx,q0,q0',hd,Int.toNat_natCast])
     exact ⟨(by simp (disch:=(first|omega|(simp only [qI,qJ,qK]<;>omega)|exact qL _)) only [go_sem,↓reduceIte,n0,reduceCtorEq,n1,n2,n3,n4,n5,i0,i1,i2,i3,i4,i5,i6,i7,Holds_nil,Holds_cons,h6,h5,h0]),hE2.drew⟩
   ·rintro ρ w2 ⟨⟨h6,h5,h0,-⟩,hE2⟩
    repeat ((first|refine qA rfl ?_|apply qB|refine qC rfl ?_|apply qD|apply qE|apply qF|apply qG|apply qH);try simp (disch:=(first|omega|(simp only [qI,qJ,qK]<;>omega)|exact qL _)) only [go_sem,↓reduceIte,n0,reduceCtorEq,n1,n2,n3,n4,n5,i0,i1,i2,i3,i4,i5,i6,i7,h6,h5,h0])
    refine ⟨⟨(by simp (disch:=(first|omega|(simp only [qI,qJ,qK]<;>omega)|exact qL _)) only [go_sem,↓reduceIte,n0,reduceCtorEq,n1,n2,n3,n4,n5,i0,i1,i2,i3,i4,i5,i6,i7,Holds_nil,Holds_cons,h6,h5,h0]),j+1,(by simp (disch:=(first|omega|(simp only [qI,qJ,qK]<;>omega)|exact qL _)) only [go_sem,↓reduceIte,n0,reduceCtorEq,n1,n2,n3,n4,n5,i0,i1,i2,i3,i4,i5,i6,i7,h6];all_goals rfl),by omega,hE2⟩,?_⟩
    try simp (disch:=(first|omega|(simp only [qI,qJ,qK]<;>omega)|exact qL _)) only [go_sem,↓reduceIte,n0,reduceCtorEq,n1,n2,n3,n4,n5,i0,i1,i2,i3,i4,i5,i6,i7,h6]
    simp only [RowKit.intOf]
    omega
  ·repeat ((first|refine qA rfl ?_|apply qB|refine qC rfl ?_|apply qD|apply qE|apply qF|apply qG|apply qH);try simp (disch:=(first|omega|(simp only [qI,qJ,qK]<;>omega)|exact qL _)) only [go_sem,↓reduceIte,n0,reduceCtorEq,n1,n2,n3,n4,n5,i0,i1,i2,i3,i4,i5,i6,i7,h6,h5])
   exact ⟨trivial,hE⟩
 ·rintro ρ w1 ⟨-,hE⟩
  repeat ((first|refine qA rfl ?_|apply qB|refine qC rfl ?_|apply qD|apply qE|apply qF|apply qG|apply qH);try simp (disch:=(first|omega|(simp only [qI,qJ,qK]<;>omega)|exact qL _)) only [go_sem,↓reduceIte,n0,reduceCtorEq,n1,n2,n3,n4,n5,i0,i1,i2,i3,i4,i5,i6,i7])
  exact hE


set_option maxHeartbeats 1000000 in
theorem EachG_fn {ok:Blocks} (F:Nat) (hF:callable Tryz.prog F=true) (lb:Array Value) {tb to:Nat} {x:Blk} {m:Value} {u u0:List TagD} (w:World)
  (hb:blk w tb=some x) (hm:x.1[to]? = some m) (ht:TagsM ok w m u0) (hpm:u.Perm u0) (hs:(u.map (·.1)).Pairwise (· < ·)) (hlen:u.length≤32767)
  (S:Nat→Prop) (hS1:¬ S tb) (hS2:∀ b,b < w.heap.size→ok b→¬ S b) (hS3:∀ b,S b→b < w.heap.size)
  (I:World→List TagD→World→Prop) (h0:∀ wl,Ext w wl→I wl [] wl)
  (hstep:∀ wl,Ext w wl→∀ done y vv w1,(done++[y]) <+: u→I wl done w1→Upd S wl w1→BytesV ok w vv y.2→y.1 < 2 ^ 32→Fn Tryz.prog F (#[.int .u32 y.1,vv]++lb) w1 fun _ w2=>I wl (done++[y]) w2∧Upd S wl w2) :
  Fn Tryz.prog 34 #[.pointer (some ⟨tb,to,none⟩),.func (.func F) #[] lb] w fun _ w'=>∃ wl,Ext w wl∧I wl u w'∧Upd S wl w':=by
 have hbl:=blk_lt hb
 refine fn_of_W Tryz.func34 rfl Tryz.results34 Tryz.ntmps34 rfl ?_
 have hul:=hpm.length_eq
 rcases ht with ⟨rfl,rfl⟩|⟨r,es,clock,rfl,hok,hr,hsz,he,hinj⟩
 ·obtain rfl:u=[]:=hpm.eq_nil
  repeat ((first|refine qA rfl ?_|apply qB|refine qC rfl ?_|apply qD|apply qE|apply qF|apply qG|apply qH);try simp (disch:=(first|omega|(simp only [qI,qJ,qK]<;>omega)|exact qL _)) only [go_sem,↓reduceIte,n0,reduceCtorEq,n1,n2,n3,n4,n5,i0,i1,i2,i3,i4,i5,i6,i7,hb,hm])
  refine wp_len_nil tagsT rfl ?_
  simp (disch:=(first|omega|(simp only [qI,qJ,qK]<;>omega)|exact qL _)) only [go_sem,↓reduceIte,n0,reduceCtorEq,n1,n2,n3,n4,n5,i0,i1,i2,i3,i4,i5,i6,i7]
  repeat ((first|refine qA rfl ?_|apply qB|refine qC rfl ?_|apply qD|apply qE|apply qF|apply qG|apply qH);try simp (disch:=(first|omega|(simp only [qI,qJ,qK]<;>omega)|exact qL _)) only [go_sem,↓reduceIte,n0,reduceCtorEq,n1,n2,n3,n4,n5,i0,i1,i2,i3,i4,i5,i6,i7])
  exact ⟨w,Upd.refl _ _,h0 w (Upd.refl _ _),Upd.refl _ _⟩
 have hrl:=heap_lt hr
 repeat ((first|refine qA rfl ?_|apply qB|refine qC rfl ?_|apply qD|apply qE|apply qF|apply qG|apply qH);try simp (disch:=(first|omega|(simp only [qI,qJ,qK]<;>omega)|exact qL _)) only [go_sem,↓reduceIte,n0,reduceCtorEq,n1,n2,n3,n4,n5,i0,i1,i2,i3,i4,i5,i6,i7,hb,hm])
 refine wp_len_map tagsT rfl hr ?_
 by_cases hz:u.length=0
 ·have hz1:(es.size:Int)=0:=by omega
  obtain rfl:u=[]:=List.eq_nil_of_length_eq_zero hz
  simp (disch:=(first|omega|(simp only [qI,qJ,qK]<;>omega)|exact qL _)) only [go_sem,↓reduceIte,n0,reduceCtorEq,n1,n2,n3,n4,n5,i0,i1,i2,i3,i4,i5,i6,i7,hz1]
  repeat ((first|refine qA rfl ?_|apply qB|refine qC rfl ?_|apply qD|apply qE|apply qF|apply qG|apply qH);try simp (disch:=(first|omega|(simp only [qI,qJ,qK]<;>omega)|exact qL _)) only [go_sem,↓reduceIte,n0,reduceCtorEq,n1,n2,n3,n4,n5,i0,i1,i2,i3,i4,i5,i6,i7])
  exact ⟨w,Upd.refl _ _,h0 w (Upd.refl _ _),Upd.refl _ _⟩
 have hz1:¬ (es.size:Int)=0:=by omega
 simp (disch:=(first|omega|(simp only [qI,qJ,qK]<;>omega)|exact qL _)) only [go_sem,↓reduceIte,n0,reduceCtorEq,n1,n2,n3,n4,n5,i0,i1,i2,i3,i4,i5,i6,i7,hz1]
 repeat ((first|refine qA rfl ?_|apply qB|refine qC rfl ?_|apply qD|apply qE|apply qF|apply qG|apply qH);try simp (disch:=(first|omega|(simp only [qI,qJ,qK]<;>omega)|exact qL _)) only [go_sem,↓reduceIte,n0,reduceCtorEq,n1,n2,n3,n4,n5,i0,i1,i2,i3,i4,i5,i6,i7,hb,hm])
 refine wp_len_map tagsT rfl hr ?_
 simp (disch:=(first|omega|(simp only [qI,qJ,qK]<;>omega)|exact qL _)) only [go_sem,↓reduceIte,n0,reduceCtorEq,n1,n2,n3,n4,n5,i0,i1,i2,i3,i4,i5,i6,i7]
 refine wp_make (T:=110) (E:=64) (size:=1) (bytes:=4) (z:=.int .u32 0) (l:=0) (c:=es.size) (kl:=.i64) (kc:=.i64) (by kernel_rfl) (by kernel_rfl) (by simp (disch:=(first|omega|(simp only [qI,qJ,qK]<;>omega)|exact qL _)) only [go_sem,↓reduceIte,n0,reduceCtorEq,n1,n2,n3,n4,n5,i0,i1,i2,i3,i4,i5,i6,i7];rfl) (by simp (disch:=(first|omega|(simp only [qI,qJ,qK]<;>omega)|exact qL _)) only [go_sem,↓reduceIte,n0,reduceCtorEq,n1,n2,n3,n4,n5,i0,i1,i2,i3,i4,i5,i6,i7]) (by omega) (by omega) (by omega) ?_
 simp (disch:=(first|omega|(simp only [qI,qJ,qK]<;>omega)|exact qL _)) only [go_sem,↓reduceIte,n0,reduceCtorEq,n1,n2,n3,n4,n5,i0,i1,i2,i3,i4,i5,i6,i7]
 have hsl:es.size≤32767:=by omega
 generalize hw2:(wr ((w.alloc (.cells (madeCells #[.int .u32 0] (es.size * 1)) 64)).alloc (.cells #[.slice none 0 0] 110)) (w.heap.size+1) 0 [.slice (some ⟨w.heap.size,0,none⟩) 0 es.size])=w2
 have hE2:Ext w w2:=by rw [← hw2];exact (Upd.alloc (Upd.alloc (Upd.refl _ _) _) _).wr _ _ (.inl (by omega))
 have hz2:w2.heap.size=w.heap.size+2:=by rw [← hw2];simp only [size_wr,World.size_alloc]
 have hrow2:blk w2 w.heap.size=some ((List.replicate es.size (.int .u32 0)).toArray,64,(0,0)):=by rw [← hw2];simp (disch:=(first|omega|(simp only [qI,qJ,qK]<;>omega)|exact qL _)) only [go_sem,↓reduceIte,n0,reduceCtorEq,n1,n2,n3,n4,n5,i0,i1,i2,i3,i4,i5,i6,i7,made_one,Nat.mul_one]
 have hown2:Own w.heap.size w2 64 1 (.slice (some ⟨w.heap.size,0,none⟩) 0 es.size) 0 []:=⟨rfl,.inr ⟨w.heap.size,es.size,List.replicate es.size (.int .u32 0),(0,0),rfl,Nat.le_refl _,hrow2,by simp,thaw_00 _ _,Nat.zero_le _⟩⟩
 have hbx2:blk w2 (w.heap.size+1)=some (#[.slice (some ⟨w.heap.size,0,none⟩) 0 es.size],110,(0,0)):=by rw [← hw2];simp (disch:=(first|omega|(simp only [qI,qJ,qK]<;>omega)|exact qL _)) only [go_sem,↓reduceIte,n0,reduceCtorEq,n1,n2,n3,n4,n5,i0,i1,i2,i3,i4,i5,i6,i7]
 have hb2:blk w2 tb=some x:=hE2.blk_some hb id
 have hr2:w2.heap[r]? = some (.map es clock):=by rw [hE2.keep r hrl id];exact hr
 clear hw2 hrow2
 repeat ((first|refine qA rfl ?_|apply qB|refine qC rfl ?_|apply qD|apply qE|apply qF|apply qG|apply qH);try simp (disch:=(first|omega|(simp only [qI,qJ,qK]<;>omega)|exact qL _)) only [go_sem,↓reduceIte,n0,reduceCtorEq,n1,n2,n3,n4,n5,i0,i1,i2,i3,i4,i5,i6,i7,hb2,hm])
 refine wp_range tagsT rfl hr2 ?_
 simp (disch:=(first|omega|(simp only [qI,qJ,qK]<;>omega)|exact qL _)) only [go_sem,↓reduceIte,n0,reduceCtorEq,n1,n2,n3,n4,n5,i0,i1,i2,i3,i4,i5,i6,i7]
 generalize hw3:w2.alloc (.mapIter (some r) clock #[] clock)=w3
 have hE3:Ext w w3:=by rw [← hw3];exact hE2.alloc _
 have hz3:w3.heap.size=w2.heap.size+1:=by rw [← hw3,World.size_alloc]
 have hit3:w3.heap[w2.heap.size]? = some (.mapIter (some r) clock #[] clock):=by
  rw [← hw3];show (w2.heap.push _)[w2.heap.size]? = _;simp
 have hown3:Own w.heap.size w3 64 1 (.slice (some ⟨w.heap.size,0,none⟩) 0 es.size) 0 []:=by rw [← hw3];exact hown2.alloc _
 have hbx3:blk w3 (w.heap.size+1)=some (#[.slice (some ⟨w.heap.size,0,none⟩) 0 es.size],110,(0,0)):=by rw [← hw3,blk_alloc_old (by omega)];exact hbx2
 clear hw3 hown2 hbx2 hb2 hr2
 have hold:=tm_old hsz he
 have hnod:=tm_nodup hinj
 have hKU:=tm_keysU hsz he
 have hkeys:=tm_keys hsz he
 repeat ((first|refine qA rfl ?_|apply qB|refine qC rfl ?_|apply qD|apply qE|apply qF|apply qG|apply qH);try simp (disch:=(first|omega|(simp only [qI,qJ,qK]<;>omega)|exact qL _)) only [go_sem,↓reduceIte,n0,reduceCtorEq,n1,n2,n3,n4,n5,i0,i1,i2,i3,i4,i5,i6,i7])
 refine W.exitJ 0 (fun ρ w'=>∃ seen xs l rest v,Ranged es seen xs l rest∧(leftOf es seen).size=0∧blk w' (w.heap.size+1)=some (#[v],110,(0,0))∧Own w.heap.size w' 64 1 v xs.length (xs.map u32V)∧Ext w w' ∧
   ρ 0 = .pointer (some ⟨tb,to,none⟩)∧ρ 1 = .func (.func F) #[] lb∧ρ 4 = .pointer (some ⟨w.heap.size+1,0,none⟩))
  (W.loop (fun ρ w'=>∃ seen xs l rest v,Ranged es seen xs l rest∧w'.heap[w2.heap.size]? = some (.mapIter (some r) clock seen clock)∧blk w' (w.heap.size+1)=some (#[v],110,(0,0))∧Own w.heap.size w' 64 1 v xs.length (xs.map u32V)∧Ext w w' ∧
   ρ 0 = .pointer (some ⟨tb,to,none⟩)∧ρ 1 = .func (.func F) #[] lb∧ρ 4 = .pointer (some ⟨w.heap.size+1,0,none⟩)∧ρ 24 = .pointer (some ⟨w2.heap.size,0,none⟩))
   (fun _ w'=>es.size - lenBox (blk w' (w.heap.size+1))) ?_ ?_) ?_
 ·refine ⟨#[],[],[],es.toList,_,Ranged.start es,hit3,hbx3,hown3,hE3,?_,?_,?_,?_⟩<;>simp (disch:=(first|omega|(simp only [qI,qJ,qK]<;>omega)|exact qL _)) only [go_sem,↓reduceIte,n0,reduceCtorEq,n1,n2,n3,n4,n5,i0,i1,i2,i3,i4,i5,i6,i7]
 ·rintro ρ w4 ⟨seen,xs,l,rest,v,hR,hit,hbx,hown,hE4,h0',h1',h4,h24⟩
  have hr4:w4.heap[r]? = some (.map es clock):=by rw [hE4.keep r hrl id];exact hr
  have hz4:=hE4.size
  have hitl:=heap_lt hit
  obtain ⟨va,vc,rfl,hvc⟩:=hown.shape
  have hlb:lenBox (blk w4 (w.heap.size+1))=xs.length:=by rw [hbx];rfl
  repeat ((first|refine qA rfl ?_|apply qB|refine qC rfl ?_|apply qD|apply qE|apply qF|apply qG|apply qH);try simp (disch:=(first|omega|(simp only [qI,qJ,qK]<;>omega)|exact qL _)) only [go_sem,↓reduceIte,n0,reduceCtorEq,n1,n2,n3,n4,n5,i0,i1,i2,i3,i4,i5,i6,i7])
  refine wp_next (r:=w2.heap.size) (by simp (disch:=(first|omega|(simp only [qI,qJ,qK]<;>omega)|exact qL _)) only [go_sem,↓reduceIte,n0,reduceCtorEq,n1,n2,n3,n4,n5,i0,i1,i2,i3,i4,i5,i6,i7,h24]) hit hr4 hold (Nat.le_refl _) ?_ ?_
  ·intro hl0
   simp (disch:=(first|omega|(simp only [qI,qJ,qK]<;>omega)|exact qL _)) only [go_sem,↓reduceIte,n0,reduceCtorEq,n1,n2,n3,n4,n5,i0,i1,i2,i3,i4,i5,i6,i7]
   repeat ((first|refine qA rfl ?_|apply qB|refine qC rfl ?_|apply qD|apply qE|apply qF|apply qG|apply qH);try simp (disch:=(first|omega|(simp only [qI,qJ,qK]<;>omega)|exact qL _)) only [go_sem,↓reduceIte,n0,reduceCtorEq,n1,n2,n3,n4,n5,i0,i1,i2,i3,i4,i5,i6,i7])
   exact ⟨seen,xs,l,rest,_,hR,hl0,hbx,hown,hE4,h0',h1',h4⟩
  ·intro e hel w5 hw5
   obtain ⟨rest',hR',hlt⟩:=hR.step hel
   obtain ⟨hee,_⟩:=mem_leftOf hel
   obtain ⟨kn,hkn⟩:=hKU e hee
   have hknn:e.key=u32V (keyN e):=by
    obtain ⟨i,hi,rfl⟩:=List.getElem_of_mem hee
    simp only [Array.length_toList] at hi
    have:=(he i (by omega) hi).1.key
    simp only [Array.getElem_toList,keyN,this]
    simp [u32V]
   have hE45:Ext w4 w5:=by rcases hw5 with rfl|rfl;exact Upd.refl _ _;exact (Upd.refl _ _).drew
   have hh45:w5.heap=w4.heap:=by rcases hw5 with rfl|rfl<;>rfl
   generalize hw6:Go.ChangeMaps.setBlock w5 w2.heap.size (.mapIter (some r) clock (seen.push e.born) clock)=w6
   have hE6:Ext w w6:=by rw [← hw6];exact (hE4.trans hE45).setBlock _ _ (.inl (by omega))
   have hU6:Upd (fun b=>b=w2.heap.size) w5 w6:=by rw [← hw6];exact (Upd.refl _ _).setBlock _ _ (.inr rfl)
   have hz6:w6.heap.size=w4.heap.size:=by rw [← hw6,setBlock_size,hh45]
   have hit6:w6.heap[w2.heap.size]? = some (.mapIter (some r) clock (seen.push e.born) clock):=by rw [← hw6,setBlock_same _ _ _ (by rw [hh45];exact hitl)]
   have hr6:w6.heap[r]? = some (.map es clock):=by rw [hE6.keep r hrl id];exact hr
   have hbx5:blk w5 (w.heap.size+1)=some (#[.slice va xs.length vc],110,(0,0)):=by rw [blk_of_heap (w:=w4) (w':=w5) (by rw [hh45])];exact hbx
   have hbx6:blk w6 (w.heap.size+1)=some (#[.slice va xs.length vc],110,(0,0)):=hU6.blk_some hbx5 (by omega)
   have hne:¬ ownB (.slice va xs.length vc) w2.heap.size:=own_ne hown fun y hy=>by
    unfold blk at hy;rw [hit] at hy;cases hy
   have hown6:Own w.heap.size w6 64 1 (.slice va xs.length vc) xs.length (xs.map u32V):=Own.upd (Own.upd hown hE45 fun _ _ h=>h) hU6 fun b hb e=>hne (e ▸ hb)
   clear hw6
   have hkv:e.key = .int .u32 (keyN e:Nat):=hknn
   clear hknn hkn
   generalize keyN e=kk at *
   simp (disch:=(first|omega|(simp only [qI,qJ,qK]<;>omega)|exact qL _)) only [go_sem,↓reduceIte,n0,reduceCtorEq,n1,n2,n3,n4,n5,i0,i1,i2,i3,i4,i5,i6,i7]
   repeat ((first|refine qA rfl ?_|apply qB|refine qC rfl ?_|apply qD|apply qE|apply qF|apply qG|apply qH);try simp (disch:=(first|omega|(simp only [qI,qJ,qK]<;>omega)|exact qL _)) only [go_sem,↓reduceIte,n0,reduceCtorEq,n1,n2,n3,n4,n5,i0,i1,i2,i3,i4,i5,i6,i7])
   refine wp_entry (e:=e) (by simp (disch:=(first|omega|(simp only [qI,qJ,qK]<;>omega)|exact qL _)) only [go_sem,↓reduceIte,n0,reduceCtorEq,n1,n2,n3,n4,n5,i0,i1,i2,i3,i4,i5,i6,i7,h24]) hit6 hr6 hee hnod ?_
   simp (disch:=(first|omega|(simp only [qI,qJ,qK]<;>omega)|exact qL _)) only [go_sem,↓reduceIte,n0,reduceCtorEq,n1,n2,n3,n4,n5,i0,i1,i2,i3,i4,i5,i6,i7,hkv]
   repeat ((first|refine qA rfl ?_|apply qB|refine qC rfl ?_|apply qD|apply qE|apply qF|apply qG|apply qH);try simp (disch:=(first|omega|(simp only [qI,qJ,qK]<;>omega)|exact qL _)) only [go_sem,↓reduceIte,n0,reduceCtorEq,n1,n2,n3,n4,n5,i0,i1,i2,i3,i4,i5,i6,i7,hbx6,h4,hkv])
   refine wp_append ap_110_110 (m:=1) (news:=[.int .u32 kk]) (n:=xs.length) (cs:=xs.map u32V) (v:=.slice va xs.length vc) ?_ rfl (hown6.alloc (.cells #[.int .u32 kk] 64)) ?_ (Src.blk (fr:=(0,0)) (T:=64) (blk_alloc_new rfl) rfl rfl) ?_ ?_ ?_
   ·simp (disch:=(first|omega|(simp only [qI,qJ,qK]<;>omega)|exact qL _)) only [go_sem,↓reduceIte,n0,reduceCtorEq,n1,n2,n3,n4,n5,i0,i1,i2,i3,i4,i5,i6,i7]
   ·simp only [List.all_map,List.all_eq_true];intro _ _;rfl
   ·simp only [World.size_alloc];omega
   ·have:=hR.len;omega
   intro v' w7 ho7 hu7 hfr7
   obtain ⟨a7,c7,rfl,hc7⟩:=ho7.shape
   have hne6:¬ ownB (.slice va xs.length vc) (w.heap.size+1):=own_ne hown6 fun y hy=>by rw [hbx6] at hy;cases hy;exact (by decide:(110:Nat)≠64)
   have hit6':¬ ownB (.slice va xs.length vc) w2.heap.size:=hne
   have hE7:Ext w w7:=Upd.more (hE6.alloc (.cells #[.int .u32 kk] 64)) hu7 fun b hb ho=>by have:=hown6.above ho;omega
   have hbx7:blk w7 (w.heap.size+1)=some (#[.slice va xs.length vc],110,(0,0)):=hu7.blk_some (by rw [blk_alloc_old (by omega)];exact hbx6) hne6
   have hit7:w7.heap[w2.heap.size]? = some (.mapIter (some r) clock (seen.push e.born) clock):=by
    rw [hu7.keep _ (by simp only [World.size_alloc];omega) hit6',RowKit.Below.heap_alloc _ _ _ (by omega)];exact hit6
   simp (disch:=(first|omega|(simp only [qI,qJ,qK]<;>omega)|exact qL _)) only [go_sem,↓reduceIte,n0,reduceCtorEq,n1,n2,n3,n4,n5,i0,i1,i2,i3,i4,i5,i6,i7,hbx7,h4]
   generalize hw8:wr w7 (w.heap.size+1) 0 [.slice a7 (xs.length+1) c7] = w8
   have hU8:Upd (fun b=>b=w.heap.size+1) w7 w8:=by rw [← hw8];exact (Upd.refl _ _).wr _ _ (.inr rfl)
   have hE8:Ext w w8:=by rw [← hw8];exact hE7.wr _ _ (.inl (by omega))
   have hbx8:blk w8 (w.heap.size+1)=some (#[.slice a7 (xs.length+1) c7],110,(0,0)):=by rw [← hw8,blk_wr_eq,hbx7];rfl
   have hne7:¬ ownB (.slice a7 (xs.length+1) c7) (w.heap.size+1):=own_ne ho7 fun y hy=>by rw [hbx7] at hy;cases hy;exact (by decide:(110:Nat)≠64)
   have hown8:Own w.heap.size w8 64 1 (.slice a7 (xs.length+1) c7) (xs++[kk]).length ((xs++[kk]).map u32V):=by
    have:=ho7.upd hU8 (fun b hb e=>hne7 (e ▸ hb))
    simpa [u32V] using this
   have hit8:w8.heap[w2.heap.size]? = some (.mapIter (some r) clock (seen.push e.born) clock):=by rw [hU8.keep _ (heap_lt hit7) (by omega)];exact hit7
   have hlb8:lenBox (blk w8 (w.heap.size+1))=xs.length+1:=by rw [hbx8];rfl
   clear hw8
   simp (disch:=(first|omega|(simp only [qI,qJ,qK]<;>omega)|exact qL _)) only [go_sem,↓reduceIte,n0,reduceCtorEq,n1,n2,n3,n4,n5,i0,i1,i2,i3,i4,i5,i6,i7,h0',h1',h4,h24]
   refine ⟨⟨_,_,_,_,_,hR',hit8,rfl,hown8,hE8⟩,?_⟩
   rw [hlb];show es.size - (xs.length+1) < _;omega
 ·rintro ρ w4 ⟨seen,xs,l,rest,v,hR,hl0,hbx,hown,hE4,h0',h1',h4⟩
  have hperm:=hR.done hl0 hnod
  rw [hkeys] at hperm
  have hxl:xs.length=u.length:=by rw [hperm.length_eq,List.length_map,hul]
  rcases hown.2 with ⟨_,h⟩|⟨g,cap,rest2,fr,rfl,hg,hgb,hgl,hth,hcap⟩
  ·omega
  have hne:w.heap.size+1≠g:=fun e=>by
   rw [e] at hbx;rw [hbx] at hgb;simp at hgb
  have hgl4:=blk_lt hgb
  repeat ((first|refine qA rfl ?_|apply qB|refine qC rfl ?_|apply qD|apply qE|apply qF|apply qG|apply qH);try simp (disch:=(first|omega|(simp only [qI,qJ,qK]<;>omega)|exact qL _)) only [go_sem,↓reduceIte,n0,reduceCtorEq,n1,n2,n3,n4,n5,i0,i1,i2,i3,i4,i5,i6,i7,hbx,h4])
  refine (sort_fn (row:=g) (c:=cap) (b4:=w.heap.size+1) (N:=cap * 1) xs.toArray w4 hgb hth (by simp;omega) hbx rfl hne (u.map (·.1)) (by simpa using hperm.trans (hpm.symm.map (·.1))) hs (by simp;omega)).mono ?_
  rintro r5 w5 ⟨hU5,hg5⟩
  have hE5:Ext w w5:=Upd.more hE4 hU5 fun b hb e=>by omega
  have hbx5:blk w5 (w.heap.size+1)=some (#[.slice (some ⟨g,0,none⟩) xs.length cap],110,(0,0)):=hU5.blk_some hbx hne
  repeat ((first|refine qA rfl ?_|apply qB|refine qC rfl ?_|apply qD|apply qE|apply qF|apply qG|apply qH);try simp (disch:=(first|omega|(simp only [qI,qJ,qK]<;>omega)|exact qL _)) only [go_sem,↓reduceIte,n0,reduceCtorEq,n1,n2,n3,n4,n5,i0,i1,i2,i3,i4,i5,i6,i7,hbx5,h4])
  refine W.exitJ 2 (fun ρ w'=>I w5 u w'∧Upd S w5 w')
   (W.loop (fun ρ w'=>∃ j:Nat,j≤u.length∧ρ 39 = .int .i64 j∧ρ 38 = .int .i64 xs.length∧ρ 37 = .slice (some ⟨g,0,none⟩) xs.length cap∧ρ 0 = .pointer (some ⟨tb,to,none⟩)∧ρ 1 = .func (.func F) #[] lb∧I w5 (u.take j) w'∧Upd S w5 w')
    (fun ρ _=>u.length - (RowKit.intOf (ρ 39)).toNat) ?_ ?_) ?_
  ·refine ⟨0,Nat.zero_le _,?_,?_,?_,?_,?_,h0 w5 hE5,Upd.refl _ _⟩<;>simp (disch:=(first|omega|(simp only [qI,qJ,qK]<;>omega)|exact qL _)) only [go_sem,↓reduceIte,n0,reduceCtorEq,n1,n2,n3,n4,n5,i0,i1,i2,i3,i4,i5,i6,i7,h0',h1',h4]
   rfl
  ·rintro ρ w6 ⟨j,hj,h39,h38,h37,h0',h1',hI,hU⟩
   by_cases hlt:j < u.length
   ·have hnS:∀ b,w.heap.size≤b→¬ S b:=fun b hb h=>by have:=hS3 b h;omega
    have hg6:blk w6 g=some (((u.map (·.1)).map u32V++rest2).toArray,64,fr):=hU.blk_some hg5 (hnS g hg)
    have hb6:blk w6 tb=some x:=hU.blk_some (hE5.blk_some hb id) hS1
    have hr6:w6.heap[r]? = some (.map es clock):=by
     rw [hU.keep r (Nat.lt_of_lt_of_le hrl hE5.size) (hS2 r hrl hok),hE5.keep r hrl id];exact hr
    have hlt':(j:Int) < (xs.length:Int):=by omega
    have hlt2:j < xs.length:=by omega
    have hx:(((u.map (·.1)).map u32V++rest2).toArray)[j]? = some (.int .u32 (u[j].1:Nat)):=by
     rw [List.getElem?_toArray,List.getElem?_append_left (by simp;omega)]
     simp [hlt,u32V]
    obtain ⟨i,hi,hie⟩:=List.getElem_of_mem (hpm.mem_iff.1 (List.getElem_mem hlt))
    obtain ⟨hte,_⟩:=he i hi (by omega)
    rw [hie] at hte
    have hpre:u.take j++[u[j]] <+: u:=by
     rw [← List.take_succ_eq_append_getElem hlt];exact List.take_prefix _ _
    have hst:=hstep w5 hE5 (u.take j) u[j] es[i].val w6 hpre hI hU hte.val hte.num
    have hsucc:u.take (j+1)=u.take j++[u[j]]:=List.take_succ_eq_append_getElem hlt
    have hnd0:(u0.map (·.1)).Nodup:=(hpm.map (·.1)).nodup_iff.1 (List.nodup_iff_pairwise_ne.2 (hs.imp fun h=>Nat.ne_of_lt h))
    have hk3:∀ k (hk:k < es.size),k < i→es[k].key≠.int .u32 (u[j].1:Nat):=by
     intro k hk hkj h
     rw [(he k (by omega) hk).1.key] at h
     simp only [Value.int.injEq,true_and] at h
     have:=List.pairwise_iff_getElem.1 (List.nodup_iff_pairwise_ne.1 hnd0) k i (by simp;omega) (by simp;omega) hkj
     simp only [List.getElem_map,hie] at this
     omega
    have hk2:=hte.key
    generalize u[j] = y at *
    generalize hev:es[i].val=ev at *
    repeat ((first|refine qA rfl ?_|apply qB|refine qC rfl ?_|apply qD|apply qE|apply qF|apply qG|apply qH);try simp (disch:=(first|omega|(simp only [qI,qJ,qK]<;>omega)|exact qL _)) only [go_sem,↓reduceIte,n0,reduceCtorEq,n1,n2,n3,n4,n5,i0,i1,i2,i3,i4,i5,i6,i7,h39,h38,h37,hg6,hx,Int.toNat_natCast,Nat.mul_one,hb6,hm,h0',h1'])
    refine wp_lookup (i:=i) (n:=(y.1:Int)) tagsT u32T (by simp (disch:=(first|omega|(simp only [qI,qJ,qK]<;>omega)|exact qL _)) only [go_sem,↓reduceIte,n0,reduceCtorEq,n1,n2,n3,n4,n5,i0,i1,i2,i3,i4,i5,i6,i7]) (by simp (disch:=(first|omega|(simp only [qI,qJ,qK]<;>omega)|exact qL _)) only [go_sem,↓reduceIte,n0,reduceCtorEq,n1,n2,n3,n4,n5,i0,i1,i2,i3,i4,i5,i6,i7]) hr6 hKU (by omega) hk2 hk3 ?_
    simp (disch:=(first|omega|(simp only [qI,qJ,qK]<;>omega)|exact qL _)) only [go_sem,↓reduceIte,n0,reduceCtorEq,n1,n2,n3,n4,n5,i0,i1,i2,i3,i4,i5,i6,i7,hev,hF,h1']
    refine hst.mono ?_
    rintro r7 w7 ⟨hI7,hU7⟩
    repeat ((first|refine qA rfl ?_|apply qB|refine qC rfl ?_|apply qD|apply qE|apply qF|apply qG|apply qH);try simp (disch:=(first|omega|(simp only [qI,qJ,qK]<;>omega)|exact qL _)) only [go_sem,↓reduceIte,n0,reduceCtorEq,n1,n2,n3,n4,n5,i0,i1,i2,i3,i4,i5,i6,i7,h39])
    refine ⟨⟨j+1,by omega,?_,h38,h37,h0',h1',by rw [hsucc];exact hI7,hU7⟩,?_⟩
    ·rfl
    ·simp only [RowKit.intOf];omega
   ·have hlt':¬ (j:Int) < (xs.length:Int):=by omega
    repeat ((first|refine qA rfl ?_|apply qB|refine qC rfl ?_|apply qD|apply qE|apply qF|apply qG|apply qH);try simp (disch:=(first|omega|(simp only [qI,qJ,qK]<;>omega)|exact qL _)) only [go_sem,↓reduceIte,n0,reduceCtorEq,n1,n2,n3,n4,n5,i0,i1,i2,i3,i4,i5,i6,i7,h39,h38])
    have e:u.take j=u:=List.take_of_length_le (by omega)
    rw [e] at hI
    exact ⟨hI,hU⟩
  ·rintro ρ w6 ⟨hI,hU⟩
   repeat ((first|refine qA rfl ?_|apply qB|refine qC rfl ?_|apply qD|apply qE|apply qF|apply qG|apply qH);try simp (disch:=(first|omega|(simp only [qI,qJ,qK]<;>omega)|exact qL _)) only [go_sem,↓reduceIte,n0,reduceCtorEq,n1,n2,n3,n4,n5,i0,i1,i2,i3,i4,i5,i6,i7])
   exact ⟨w5,hE5,hI,hU⟩
end Ms

namespace Ms
open Go

def Shr {α:Type} (r:St→α × St):Prop:=∀ st,stLen (r st).2≤stLen st
/-! ### The tags -/
/-! ### The parts -/
def okDf : Nat→List Fld→Bool
 | 0,_=>true
 | d+1,fs=>decide (fs.length≤32767) && fs.all fun f=>(!decide (f.kind=4) || decide (IntKind.i64.wrap f.df=f.df)) && (!decide (f.kind=10) && !decide (f.of=10) || okDf d f.sub)
inductive All3 {α β:Type} (R:α→β→Prop):List α→List β→Prop
 | nil:All3 R [] []
 | cons {a:α} {b:β} {l:List α} {m:List β} (h:R a b) (t:All3 R l m):All3 R (a :: l) (b :: m)
theorem goodL_of {G:List Fld→Tree→Prop} {n:Int} {s:List UInt8} {nl:Bool} {u:List TagD}:∀ {fs:List Fld} {l:List Tree} (pre:List Tree),All3 (GoodF G) fs l→GoodL G (.mk n s nl (pre++l) u) fs pre.length
 | _,_,_,.nil=>trivial
 | f :: fs,x :: l,pre,.cons h t=>by
  refine ⟨?_,?_⟩
  ·have:Tree.at (.mk n s nl (pre++x :: l) u) pre.length=x:=by simp [Tree.at,Tree.l]
   rw [this];exact h
  ·have:=goodL_of (G:=G) (n:=n) (s:=s) (nl:=nl) (u:=u) (pre++[x]) t
   simpa using this
theorem good1_num {G:List Fld→Tree→Prop} {k:Int} {sub:List Fld} {n:Int} (h:k=4→IntKind.i64.wrap n=n) (hk:k≠10):Good1 G k sub (.num n):=⟨h,by simp [Tree.num,Tree.s],fun h=>absurd h hk⟩
theorem good1_oct {G:List Fld→Tree→Prop} {k:Int} {sub:List Fld} {b:Bool} {s:List UInt8} (h:s.length≤32767) (hk:k≠10):Good1 G k sub (.oct b s):=⟨fun _=>rfl,h,fun h=>absurd h hk⟩
theorem dfP_sn : ∀ d fs,(dfP d fs).s=[]∧(dfP d fs).n=0
 | 0,_=>⟨rfl,rfl⟩
 | d+1,fs=>⟨rfl,rfl⟩
theorem Good_setNull {d:Nat} {fs:List Fld} {t:Tree} (h:GoodP d fs t) (b:Bool):GoodP d fs (t.setNull b):=by
 cases t with
 | mk n s nl l u =>
  cases d with
  | zero=>trivial
  | succ d =>
   refine ⟨?_,h.2⟩
   have key:∀ (fs:List Fld) (i:Nat),GoodL (GoodP d) (.mk n s nl l u) fs i→GoodL (GoodP d) (.mk n s b l u) fs i:=by
    intro fs
    induction fs with
    | nil=>intro i _;trivial
    | cons f fs ih=>intro i h;exact ⟨h.1,ih _ h.2⟩
   exact key fs 0 h.1
theorem dfF_good {d:Nat} {dp:List Fld→Tree} {f:Fld} (hdp:f.kind=10→GoodP d f.sub (dp f.sub)∧(dp f.sub).s=[]) (h4:f.kind=4→IntKind.i64.wrap f.df=f.df):GoodF (GoodP d) f (dfF dp f):=by
 unfold GoodF dfF
 by_cases h11:f.kind=11
 ·rw [if_pos h11,if_neg (by omega),if_neg (by omega),if_neg (by omega),if_pos h11]
  exact ⟨by simp [Tree.l],fun y hy=>by simp [Tree.l] at hy⟩
 ·rw [if_neg h11]
  by_cases h8:f.kind=8
  ·rw [if_pos h8];exact good1_oct (by simp) (by omega)
  ·rw [if_neg h8]
   by_cases h7:f.kind=7
   ·rw [if_pos h7];exact good1_oct (by rw [uuidS_len];omega) (by omega)
   ·rw [if_neg h7]
    by_cases h9:f.kind=9
    ·rw [if_pos h9];exact good1_oct (by simp) (by omega)
    ·rw [if_neg h9,if_neg h11]
     by_cases h10:f.kind=10
     ·rw [if_pos h10]
      have:=hdp h10
      refine ⟨fun h=>by omega,?_,fun _=>Good_setNull this.1 _⟩
      have e:((dp f.sub).setNull (decide (0≤f.null))).s=(dp f.sub).s:=by cases dp f.sub;rfl
      rw [e,this.2];simp
     ·rw [if_neg h10];exact good1_num h4 h10
theorem okDf_f {d:Nat} {fs:List Fld} (h:okDf (d+1) fs=true) {f:Fld} (hf:f∈fs):(f.kind=4→IntKind.i64.wrap f.df=f.df)∧(f.kind=10∨f.of=10→okDf d f.sub=true):=by
 unfold okDf at h
 rw [Bool.and_eq_true] at h
 have:=List.all_eq_true.1 h.2 f hf
 simp only [Bool.and_eq_true,Bool.or_eq_true,Bool.not_eq_true',decide_eq_false_iff_not,decide_eq_true_eq] at this
 refine ⟨fun h4=>this.1.resolve_left fun h=>h h4,fun h10=>this.2.resolve_left fun h => ?_⟩
 rcases h10 with h10|h10
 ·exact h.1 h10
 ·exact h.2 h10
theorem dfP_good : ∀ (d:Nat) (fs:List Fld),okDf d fs=true→GoodP d fs (dfP d fs)
 | 0,_,_=>trivial
 | d+1,fs,h=>by
  refine ⟨?_,by simp [dfP,Tree.u,GoodU]⟩
  have key:∀ (gs:List Fld),(∀ f∈gs,f∈fs)→All3 (GoodF (GoodP d)) gs (gs.map (dfF (dfP d))):=by
   intro gs
   induction gs with
   | nil=>intro _;exact .nil
   | cons f gs ih =>
    intro hm
    have hf:=okDf_f h (hm f (by simp))
    exact .cons (dfF_good (fun h10=>⟨dfP_good d f.sub (hf.2 (.inl h10)),(dfP_sn d f.sub).1⟩) hf.1) (ih fun g hg=>hm g (by simp [hg]))
  exact goodL_of (G:=GoodP d) [] (key fs fun _ h=>h)
theorem okDf_len {d:Nat} {fs:List Fld} (h:okDf (d+1) fs=true):fs.length≤32767:=by
 unfold okDf at h
 rw [Bool.and_eq_true,decide_eq_true_eq] at h
 exact h.1
theorem small_num (n:Int):Small 32767 (.num n):=.mk (by simp) (by simp) (by simp) (fun i h=>by simp at h) (fun x h=>by simp at h)
theorem small_oct (b:Bool) {s:List UInt8} (h:s.length≤32767):Small 32767 (.oct b s):=.mk h (by simp) (by simp) (fun i h=>by simp at h) (fun x h=>by simp at h)
theorem small_list (b:Bool) {l:List Tree} (hl:l.length≤32767) (h:∀ x∈l,Small 32767 x):Small 32767 (.mk 0 [] b l []):=.mk (by simp) hl (by simp) (fun i hi=>h _ (List.getElem_mem hi)) (fun x h=>by simp at h)
theorem tl1_small {d:Nat} {k:Int} {sub:List Fld} {x:Tree} (hg:Good1 (GoodP d) k sub x) (hp:k=10→GoodP d sub x→Small 32767 (tlP d sub x)):Small 32767 (tl1 (tlP d) k sub x):=by
 unfold tl1
 split
 ·exact small_num _
 ·split
  ·exact small_oct _ (by rw [uuidS_len];omega)
  ·split
   ·exact small_oct _ hg.2.1
   ·split
    ·refine small_oct _ ?_
     split
     ·simp
     ·exact hg.2.1
    ·split
     ·rename_i h10;exact hp h10 (hg.2.2 h10)
     ·exact small_num _
theorem tlL_len (tp:List Fld→Tree→Tree) (t:Tree):∀ fs i,(tlL tp t fs i).length=fs.length
 | [],_=>rfl
 | f :: fs,i=>by simp [tlL,tlL_len tp t fs]
theorem tlP_small : ∀ (d:Nat) (fs:List Fld) (t:Tree),okDf d fs=true→GoodP d fs t→Small 32767 (tlP d fs t)
 | 0,_,_,_,_=>.mk (by simp) (by simp) (by simp) (fun i h=>by simp at h) (fun x h=>by simp at h)
 | d+1,fs,t,ho,h=>by
  have key:∀ (gs:List Fld) (i:Nat),(∀ f∈gs,f∈fs)→GoodL (GoodP d) t gs i→∀ y∈tlL (tlP d) t gs i,Small 32767 y:=by
   intro gs
   induction gs with
   | nil=>intro i _ _ y hy;simp [tlL] at hy
   | cons f gs ih =>
    intro i hm hg y hy
    rcases List.mem_cons.1 hy with rfl|hy
    ·have hf:=(okDf_f ho (hm f (by simp))).2
     unfold tlF
     split
     ·rename_i h8
      refine small_oct _ ?_
      have h1:=(hg.1.one (by omega)).2.1
      split
      ·simp
      ·exact h1
     ·split
      ·rename_i h11
       have hl:=hg.1.listL h11 rfl
       refine small_list _ (by rw [List.length_map];exact hl.1) fun x hx => ?_
       obtain ⟨z,hz,rfl⟩:=List.mem_map.1 hx
       exact tl1_small (hl.2 z hz) fun h10 hgz=>tlP_small d f.sub z (hf (.inr h10)) hgz
      ·rename_i h11
       exact tl1_small (hg.1.one h11) fun h10 hgz=>tlP_small d f.sub _ (hf (.inl h10)) hgz
    ·exact ih (i+1) (fun g hg=>hm g (by simp [hg])) hg.2 y hy
  have hu:=h.2
  exact .mk (by simp) (by rw [tlL_len];exact okDf_len ho) (by rw [(sortT_perm t.u).length_eq];exact hu.1)
   (fun i hi=>key fs 0 (fun _ h=>h) h.1 _ (List.getElem_mem hi)) (fun x hx=>hu.2.2 x ((sortT_perm t.u).mem_iff.1 hx))
theorem Small.lists {t:Tree} (h:Small 32767 t):Lists t:=by
 induction h with
 | mk hs hl hu he hd ih=>exact .mk hl hu ih
end Ms

namespace Ms
open Go.World renaming size_alloc → qI
open Ms renaming size_wr → qJ,size_drew → qK,not_noB → qL
open W renaming seqR → qA,seq → qB,regR → qC,condK → qD,block → qE,skip → qF,ret → qG,exit → qH
open Nat renaming reduceEqDiff → n0,reduceAdd → n1,reduceMul → n2,reduceSub → n3,reduceLT → n4,reduceLeDiff → n5
open Int renaming reduceEq → i0,reduceLT → i1,reduceLE → i2,reduceNeg → i3,reduceAdd → i4,reduceSub → i5,reduceMul → i6,reduceToNat → i7
set_option maxRecDepth 8000
set_option maxHeartbeats 2000000
open Go Go.Proofs Go.Shelf
attribute [local congr] W_congr WPsq_congr WPp_congr optK_congr addrK_congr intK_congr boolK_congr sliceK_congr tupleK_congr funcK_congr Fn_congr rawK_congr takeK_congr stepK_congr convK_congr aggK_congr

theorem got_step (t:Tree) (hl2:t.l.length≤32767) (hl3:t.u.length≤32767)
  (hrec:∀ i (h:i < t.l.length),∀ (ok:Blocks) (ct:List Value) (w:World),TreeC ok w t.l[i] ct→Fn Tryz.prog 12 #[.agg ct.toArray] w fun r w'=>TreeRg ok w w' r t.l[i]∧Ext w w')
  (ok:Blocks) (ct:List Value) (w:World) (ht:TreeC ok w t ct) :
  Fn Tryz.prog 12 #[.agg ct.toArray] w fun r w'=>TreeRg ok w w' r t∧Ext w w':=by
 obtain ⟨vS,vL,vU,rfl,hn,hS,hL,hU⟩:=ht.inv
 obtain ⟨bS,cS,rfl,hcS⟩:=hS.shape
 obtain ⟨bl,cl,rfl,hcl⟩:=SlR.shape hL
 obtain ⟨bu,cu,rfl,hcu⟩:=SlR.shape hU
 have hE:Ext w (wr (((w.alloc (.cells #[.int .i64 t.n,.slice bS t.s.length cS,.bool t.null,.slice bl t.l.length cl,.slice bu t.u.length cu] 37)).alloc (.cells #[.int .i64 0,.slice none 0 0,.bool false,.slice none 0 0,.slice none 0 0] 26)).alloc (.cells #[.int .i64 0,.slice none 0 0,.bool false,.slice none 0 0,.slice none 0 0] 26)) (w.heap.size+2) 0 [.int .i64 t.n,.slice bS t.s.length cS,.bool t.null,.slice none 0 0,.slice none 0 0]):=(((Upd.refl _ _).alloc _).alloc _).alloc _ |>.wr _ _ (.inl (by omega))
 refine fn_of_W Tryz.func12 rfl Tryz.results12 Tryz.ntmps12 rfl ?_
 repeat ((first|refine qA rfl ?_|apply qB|refine qC rfl ?_|apply qD|apply qE|apply qF|apply qG|apply qH);try simp (disch:=(first|omega|(simp only [qI,qJ,qK]<;>omega)|exact qL _)) only [go_sem,↓reduceIte,n0,reduceCtorEq,n1,n2,n3,n4,n5,i0,i1,i2,i3,i4,i5,i6,i7])
 have hb0:blk (wr (((w.alloc (.cells #[.int .i64 t.n,.slice bS t.s.length cS,.bool t.null,.slice bl t.l.length cl,.slice bu t.u.length cu] 37)).alloc (.cells #[.int .i64 0,.slice none 0 0,.bool false,.slice none 0 0,.slice none 0 0] 26)).alloc (.cells #[.int .i64 0,.slice none 0 0,.bool false,.slice none 0 0,.slice none 0 0] 26)) (w.heap.size+2) 0 [.int .i64 t.n,.slice bS t.s.length cS,.bool t.null,.slice none 0 0,.slice none 0 0]) w.heap.size=some (#[.int .i64 t.n,.slice bS t.s.length cS,.bool t.null,.slice bl t.l.length cl,.slice bu t.u.length cu],37,(0,0)):=by simp (disch:=(first|omega|(simp only [qI,qJ,qK]<;>omega)|exact qL _)) only [go_sem,↓reduceIte,n0,reduceCtorEq,n1,n2,n3,n4,n5,i0,i1,i2,i3,i4,i5,i6,i7]
 have hb1:blk (wr (((w.alloc (.cells #[.int .i64 t.n,.slice bS t.s.length cS,.bool t.null,.slice bl t.l.length cl,.slice bu t.u.length cu] 37)).alloc (.cells #[.int .i64 0,.slice none 0 0,.bool false,.slice none 0 0,.slice none 0 0] 26)).alloc (.cells #[.int .i64 0,.slice none 0 0,.bool false,.slice none 0 0,.slice none 0 0] 26)) (w.heap.size+2) 0 [.int .i64 t.n,.slice bS t.s.length cS,.bool t.null,.slice none 0 0,.slice none 0 0]) (w.heap.size+1)=some (#[.int .i64 0,.slice none 0 0,.bool false,.slice none 0 0,.slice none 0 0],26,(0,0)):=by simp (disch:=(first|omega|(simp only [qI,qJ,qK]<;>omega)|exact qL _)) only [go_sem,↓reduceIte,n0,reduceCtorEq,n1,n2,n3,n4,n5,i0,i1,i2,i3,i4,i5,i6,i7]
 have hb2:blk (wr (((w.alloc (.cells #[.int .i64 t.n,.slice bS t.s.length cS,.bool t.null,.slice bl t.l.length cl,.slice bu t.u.length cu] 37)).alloc (.cells #[.int .i64 0,.slice none 0 0,.bool false,.slice none 0 0,.slice none 0 0] 26)).alloc (.cells #[.int .i64 0,.slice none 0 0,.bool false,.slice none 0 0,.slice none 0 0] 26)) (w.heap.size+2) 0 [.int .i64 t.n,.slice bS t.s.length cS,.bool t.null,.slice none 0 0,.slice none 0 0]) (w.heap.size+2)=some (#[.int .i64 t.n,.slice bS t.s.length cS,.bool t.null,.slice none 0 0,.slice none 0 0],26,(0,0)):=by simp (disch:=(first|omega|(simp only [qI,qJ,qK]<;>omega)|exact qL _)) only [go_sem,↓reduceIte,n0,reduceCtorEq,n1,n2,n3,n4,n5,i0,i1,i2,i3,i4,i5,i6,i7]
 have hz2:(wr (((w.alloc (.cells #[.int .i64 t.n,.slice bS t.s.length cS,.bool t.null,.slice bl t.l.length cl,.slice bu t.u.length cu] 37)).alloc (.cells #[.int .i64 0,.slice none 0 0,.bool false,.slice none 0 0,.slice none 0 0] 26)).alloc (.cells #[.int .i64 0,.slice none 0 0,.bool false,.slice none 0 0,.slice none 0 0] 26)) (w.heap.size+2) 0 [.int .i64 t.n,.slice bS t.s.length cS,.bool t.null,.slice none 0 0,.slice none 0 0]).heap.size=w.heap.size+3:=by simp only [size_wr,World.size_alloc]
 generalize (wr (((w.alloc (.cells #[.int .i64 t.n,.slice bS t.s.length cS,.bool t.null,.slice bl t.l.length cl,.slice bu t.u.length cu] 37)).alloc (.cells #[.int .i64 0,.slice none 0 0,.bool false,.slice none 0 0,.slice none 0 0] 26)).alloc (.cells #[.int .i64 0,.slice none 0 0,.bool false,.slice none 0 0,.slice none 0 0] 26)) (w.heap.size+2) 0 [.int .i64 t.n,.slice bS t.s.length cS,.bool t.null,.slice none 0 0,.slice none 0 0])=w2 at *
 refine W.exitJ 0 (fun ρ w'=>∃ v,ρ 1 = .pointer (some ⟨w.heap.size,0,none⟩)∧ρ 2 = .pointer (some ⟨w.heap.size+1,0,none⟩)∧ρ 3 = .pointer (some ⟨w.heap.size+2,0,none⟩) ∧
   blk w' (w.heap.size+2)=some (#[.int .i64 t.n,.slice bS t.s.length cS,.bool t.null,v,.slice none 0 0],26,(0,0))∧GrowT (fun b=>okN ok w.heap.size b∧b≠w.heap.size+1∧b≠w.heap.size+2) w2.heap.size (w.heap.size+2) w' 26 v t.l∧Upd (fun b=>b=w.heap.size+2) w2 w')
  (W.loop (fun ρ w'=>∃ (j:Nat) (v:Value),j≤t.l.length∧ρ 18 = .int .i64 j∧ρ 17 = .int .i64 t.l.length∧ρ 16 = .slice bl t.l.length cl∧ρ 1 = .pointer (some ⟨w.heap.size,0,none⟩)∧ρ 2 = .pointer (some ⟨w.heap.size+1,0,none⟩)∧ρ 3 = .pointer (some ⟨w.heap.size+2,0,none⟩) ∧
   blk w' (w.heap.size+2)=some (#[.int .i64 t.n,.slice bS t.s.length cS,.bool t.null,v,.slice none 0 0],26,(0,0))∧GrowT (fun b=>okN ok w.heap.size b∧b≠w.heap.size+1∧b≠w.heap.size+2) w2.heap.size (w.heap.size+2) w' 26 v (t.l.take j)∧Upd (fun b=>b=w.heap.size+2) w2 w')
  (fun ρ _=>t.l.length - (RowKit.intOf (ρ 18)).toNat) ?_ ?_) ?_
 ·refine ⟨0,_,Nat.zero_le _,?_,?_,?_,?_,?_,?_,hb2,GrowT.nil _ _ _ _ _,Upd.refl _ _⟩<;>simp (disch:=(first|omega|(simp only [qI,qJ,qK]<;>omega)|exact qL _)) only [go_sem,↓reduceIte,n0,reduceCtorEq,n1,n2,n3,n4,n5,i0,i1,i2,i3,i4,i5,i6,i7]
  all_goals rfl
 ·rintro ρ w6 ⟨j,v,hj,h18,h17,h16,h1,h2,h3,hbt,hg,hU6⟩
  have hz6:=hU6.size
  have hE06:Ext w w6:=hE.more hU6 fun b hb h=>by omega
  by_cases hlt:j < t.l.length
  ·obtain ⟨_,b,o,x,vS',vL',vU',hb,hokb,hx,hblt,hxs,hxe,g1,g2,g3,hc⟩:=TreesV.get hL hlt
   subst hb
   have hx6:blk w6 b=some x:=hE06.blk_some hx id
   have hcat:t.l.take (j+1)=t.l.take j++[t.l[j]]:=List.take_succ_eq_append_getElem hlt
   have hlen9:(t.l.take j).length=j:=by simp;omega
   have hnb:∀ b,b < w2.heap.size∨b=w6.heap.size→¬ ownB v b:=fun b hb h=>by
    have:=hg.above h
    have:=hg.below h
    omega
   have hE7:Ext w6 (wr (w6.alloc (.cells #[.int .i64 0,.slice none 0 0,.bool false,.slice none 0 0,.slice none 0 0] 37)) w6.heap.size 0 [.int .i64 t.l[j].n,vS',.bool t.l[j].null,vL',vU']):=(Upd.alloc (Upd.refl _ _) _).wr _ _ (.inl (Nat.le_refl _))
   have hb7:blk (wr (w6.alloc (.cells #[.int .i64 0,.slice none 0 0,.bool false,.slice none 0 0,.slice none 0 0] 37)) w6.heap.size 0 [.int .i64 t.l[j].n,vS',.bool t.l[j].null,vL',vU']) w6.heap.size=some (#[.int .i64 t.l[j].n,vS',.bool t.l[j].null,vL',vU'],37,(0,0)):=by simp (disch:=(first|omega|(simp only [qI,qJ,qK]<;>omega)|exact qL _)) only [go_sem,↓reduceIte,n0,reduceCtorEq,n1,n2,n3,n4,n5,i0,i1,i2,i3,i4,i5,i6,i7]
   have hz7:(wr (w6.alloc (.cells #[.int .i64 0,.slice none 0 0,.bool false,.slice none 0 0,.slice none 0 0] 37)) w6.heap.size 0 [.int .i64 t.l[j].n,vS',.bool t.l[j].null,vL',vU']).heap.size=w6.heap.size+1:=by simp only [size_wr,World.size_alloc]
   have hrecj:=hrec j hlt (fun b=>ok b∧b < w.heap.size) [.int .i64 t.l[j].n,vS',.bool t.l[j].null,vL',vU']
   repeat ((first|refine qA rfl ?_|apply qB|refine qC rfl ?_|apply qD|apply qE|apply qF|apply qG|apply qH);try simp (disch:=(first|omega|(simp only [qI,qJ,qK]<;>omega)|exact qL _)) only [go_sem,↓reduceIte,n0,reduceCtorEq,n1,n2,n3,n4,n5,i0,i1,i2,i3,i4,i5,i6,i7,h18,h17,h16,hx6,hxe,g1,g2,g3,cellsAt_five,Int.toNat_natCast])
   generalize (wr (w6.alloc (.cells #[.int .i64 0,.slice none 0 0,.bool false,.slice none 0 0,.slice none 0 0] 37)) w6.heap.size 0 [.int .i64 t.l[j].n,vS',.bool t.l[j].null,vL',vU'])=w7 at *
   have hbt7:=hE7.blk_some hbt id
   refine W.drawR (.take 0 (.take 1 (.take 2 (.only 3 (.only 4 (.only 5 (.take 6 (.last 7)))))))) (ownB v) mixed (by kernel_rfl) ?_
   simp (disch:=(first|omega|(simp only [qI,qJ,qK]<;>omega)|exact qL _|(refine hnb _ ?_;first|omega|(simp only [World.size_alloc,size_wr,size_drew]<;>omega)))) only [go_sem,↓reduceIte,n0,reduceCtorEq,n1,n2,n3,n4,n5,i0,i1,i2,i3,i4,i5,i6,i7,h3,hbt7,hb7,cellsAt_five,cellsAt_eight]
   have hE7d:Ext w7 w7.drew:=(Upd.refl _ _).drew
   have hE07d:Ext w w7.drew:=(hE06.trans hE7).trans hE7d
   have hzd:w7.drew.heap.size=w7.heap.size:=size_drew _
   refine (hrecj w7.drew ((hc.weaken fun b h1 h2=>⟨h2,h1⟩).keep (hE07d.keeps _))).mono ?_
   rintro v8 w8 ⟨⟨c8,rfl,hc8⟩,hE8⟩
   generalize t.l[j] = T at *
   obtain ⟨vS8,vL8,vU8,rfl,hn8,hS8,hL8,hU8⟩:=hc8.inv
   have k1:=hS8.flat
   have k2:=SlR.flat hL8
   have k3:=SlR.flat hU8
   have hz8:=hE8.size
   simp only [size_drew] at hz8
   have hM8:Upd (ownB v) w7.drew w8:=hE8.mono (fun _ h=>h.elim)
   have hE68:Ext w6 w8:=(hE7.trans hE7d).trans hE8
   have hE9:Ext w8 (w8.alloc (.cells #[.int .i64 T.n,vS8,.bool T.null,vL8,vU8] 26)):=Upd.alloc (Upd.refl _ _) _
   have hM9:Upd (ownB v) w7.drew (w8.alloc (.cells #[.int .i64 T.n,vS8,.bool T.null,vL8,vU8] 26)):=hM8.alloc _
   refine ⟨hM8,?_⟩
   simp (disch:=(first|omega|(simp only [qI,qJ,qK]<;>omega)|exact qL _)) only [go_sem,↓reduceIte,n0,reduceCtorEq,n1,n2,n3,n4,n5,i0,i1,i2,i3,i4,i5,i6,i7,k1,k2,k3]
   refine ⟨hM9,?_⟩
   have hg9:=(hg.ext hE68).ext hE9
   have hx9:TreeC (fun b=>(fun b=>okN ok w.heap.size b∧b≠w.heap.size+1∧b≠w.heap.size+2) b∧b≠w.heap.size+2∧¬ ownB v b) (w8.alloc (.cells #[.int .i64 T.n,vS8,.bool T.null,vL8,vU8] 26)) T [.int .i64 T.n,vS8,.bool T.null,vL8,vU8] :=
    (hc8.keep (hE9.keeps _)).weaken fun b _ hk=>by
     rcases hk with ⟨h1,h2⟩|h2
     ·exact ⟨⟨.inl h1,by omega,by omega⟩,by omega,fun h=>by have:=hg.above h;omega⟩
     ·exact ⟨⟨.inr (by omega),by omega,by omega⟩,by omega,fun h=>by have:=hg.below h;omega⟩
   obtain ⟨css,hown,hall⟩:=hg9.ex
   have hcl9:=hall.1
   refine wp_append ap_23_23 (m:=1) (news:=[.int .i64 T.n,vS8,.bool T.null,vL8,vU8]) (n:=css.length) (cs:=css.flatten) (v:=v) ?_ rfl hown.1 (all2_flat_tree hall) (Src.blk (fr:=(0,0)) (T:=26) (blk_alloc_new rfl) rfl (flat_tree hx9).1) ?_ ?_ ?_
   ·simp (disch:=(first|omega|(simp only [qI,qJ,qK]<;>omega)|exact qL _)) only [go_sem,↓reduceIte,n0,reduceCtorEq,n1,n2,n3,n4,n5,i0,i1,i2,i3,i4,i5,i6,i7]
   ·simp only [World.size_alloc];omega
   ·omega
   intro v' w10 ho hu hfr
   have hg10:=GrowT.snoc hown hall hx9 hu hfr ho
   have hz10:=hu.size
   simp only [World.size_alloc] at hz10
   obtain ⟨va,vc,hv',_⟩:=ho.shape
   subst hv'
   have hbt10:=(hM9.trans hu).blk_some (hE7d.blk_some hbt7 id) (hnb _ (by omega))
   have htb:¬ ownB (.slice va (css.length+1) vc) (w.heap.size+2):=fun h=>by
    rcases hfr _ h with h|h
    ·exact hnb _ (.inl (by omega)) h
    ·simp only [World.size_alloc] at h;omega
   simp (disch:=(first|omega|(simp only [qI,qJ,qK]<;>omega)|exact qL _)) only [go_sem,↓reduceIte,n0,reduceCtorEq,n1,n2,n3,n4,n5,i0,i1,i2,i3,i4,i5,i6,i7]
   refine ⟨hM9.trans hu,?_⟩
   simp (disch:=(first|omega|(simp only [qI,qJ,qK]<;>omega)|exact qL _)) only [go_sem,↓reduceIte,n0,reduceCtorEq,n1,n2,n3,n4,n5,i0,i1,i2,i3,i4,i5,i6,i7,h3,hbt10]
   repeat ((first|refine qA rfl ?_|apply qB|refine qC rfl ?_|apply qD|apply qE|apply qF|apply qG|apply qH);try simp (disch:=(first|omega|(simp only [qI,qJ,qK]<;>omega)|exact qL _)) only [go_sem,↓reduceIte,n0,reduceCtorEq,n1,n2,n3,n4,n5,i0,i1,i2,i3,i4,i5,i6,i7,h18])
   refine ⟨⟨j+1,.slice va (css.length+1) vc,by omega,rfl,h17,h16,h1,h2,h3,?_,?_,?_⟩,?_⟩
   ·simp (disch:=(first|omega|(simp only [qI,qJ,qK]<;>omega)|exact qL _)) only [go_sem,↓reduceIte,n0,reduceCtorEq,n1,n2,n3,n4,n5,i0,i1,i2,i3,i4,i5,i6,i7,hbt10]
   ·rw [hcat];exact hg10.upd ((Upd.refl _ _).wr _ _ (.inr rfl)) htb
   ·refine Upd.wr ?_ _ _ (.inr rfl)
    exact hU6.more (((hE68.trans hE9).mono fun _ h=>h.elim).trans hu) fun b hb h=>by have:=hg.above h;omega
   ·simp only [RowKit.intOf];omega
  ·have hjl:j=t.l.length:=by omega
   subst hjl
   rw [List.take_length] at hg
   repeat ((first|refine qA rfl ?_|apply qB|refine qC rfl ?_|apply qD|apply qE|apply qF|apply qG|apply qH);try simp (disch:=(first|omega|(simp only [qI,qJ,qK]<;>omega)|exact qL _)) only [go_sem,↓reduceIte,n0,reduceCtorEq,n1,n2,n3,n4,n5,i0,i1,i2,i3,i4,i5,i6,i7,h18,h17])
   exact ⟨v,h1,h2,h3,hbt,hg,hU6⟩
 ·rintro ρ w5 ⟨vl,h1,h2,h3,hbt,hg,hU5⟩
  have hz5:=hU5.size
  have hE05:Ext w w5:=hE.more hU5 fun b hb h=>by omega
  have hb05:=hU5.blk_some hb0 (by omega)
  have hb15:=hU5.blk_some hb1 (by omega)
  obtain ⟨al,cl',hvl,hcl'⟩:=hg.shape
  subst hvl
  have hTL:TreesV (fun b=>(fun b=>okN ok w.heap.size b∧b≠w.heap.size+1∧b≠w.heap.size+2) b∧b < w5.heap.size) w5 (.slice al t.l.length cl') t.l :=
   (hg.trees (ok':=(fun b=>okN ok w.heap.size b∧b≠w.heap.size+1∧b≠w.heap.size+2)) (fun _ _ h=>h) (fun b hb=>⟨.inr (by omega),by omega,by omega⟩)).weaken fun b h1 h2=>⟨h2,h1⟩
  simp (disch:=(first|omega|(simp only [qI,qJ,qK]<;>omega)|exact qL _)) only [go_sem,↓reduceIte,n0,reduceCtorEq,n1,n2,n3,n4,n5,i0,i1,i2,i3,i4,i5,i6,i7]
  repeat ((first|refine qA rfl ?_|apply qB|refine qC rfl ?_|apply qD|apply qE|apply qF|apply qG|apply qH);try simp (disch:=(first|omega|(simp only [qI,qJ,qK]<;>omega)|exact qL _)) only [go_sem,↓reduceIte,n0,reduceCtorEq,n1,n2,n3,n4,n5,i0,i1,i2,i3,i4,i5,i6,i7,h1,hb05])
  refine W.loop (fun ρ w'=>∃ (j:Nat) (v:Value),j≤t.u.length∧ρ 33 = .int .i64 j∧ρ 32 = .int .i64 t.u.length∧ρ 31 = .slice bu t.u.length cu∧ρ 2 = .pointer (some ⟨w.heap.size+1,0,none⟩)∧ρ 3 = .pointer (some ⟨w.heap.size+2,0,none⟩) ∧
    blk w' (w.heap.size+2)=some (#[.int .i64 t.n,.slice bS t.s.length cS,.bool t.null,.slice al t.l.length cl',v],26,(0,0))∧GrowU (fun b=>okN ok w.heap.size b∧b≠w.heap.size+1∧b≠w.heap.size+2) w5.heap.size (w.heap.size+2) w' 66 v (t.u.take j)∧Upd (fun b=>b=w.heap.size+2) w5 w')
   (fun ρ _=>t.u.length - (RowKit.intOf (ρ 33)).toNat) ?_ ?_
  ·refine ⟨0,_,Nat.zero_le _,?_,?_,?_,?_,?_,hbt,GrowU.nil _ _ _ _ _,Upd.refl _ _⟩<;>simp (disch:=(first|omega|(simp only [qI,qJ,qK]<;>omega)|exact qL _)) only [go_sem,↓reduceIte,n0,reduceCtorEq,n1,n2,n3,n4,n5,i0,i1,i2,i3,i4,i5,i6,i7,h2,h3]
   all_goals rfl
  ·clear h1 h2 h3 hg hbt
   rintro ρ w6 ⟨j,v,hj,h33,h32',h31,h2,h3,hbt,hg,hU6⟩
   have hz6:=hU6.size
   have hE06:Ext w w6:=hE05.more hU6 fun b hb h=>by omega
   by_cases hlt:j < t.u.length
   ·obtain ⟨_,b,o,x,vv,hb,hokb,hx,hblt,hxs,hxe,_,_,hfv,hbv,h32⟩:=TagsV.get hU hlt
    subst hb
    have hx6:blk w6 b=some x:=hE06.blk_some hx id
    have hcat:t.u.take (j+1)=t.u.take j++[(t.u[j].1,t.u[j].2)]:=List.take_succ_eq_append_getElem hlt
    have hlen9:(t.u.take j).length=j:=by simp;omega
    have hnb:∀ b,b < w5.heap.size∨b=w6.heap.size→¬ ownB v b:=fun b hb h=>by
     have:=hg.above h
     have:=hg.below h
     omega
    generalize t.u[j].1=K at *
    generalize t.u[j].2=S at *
    obtain ⟨b8',c8',rfl,_⟩:=hbv.shape
    have hE8:Ext w6 (wr (w6.alloc (.cells #[.int .u32 0,.slice none 0 0] 69)) w6.heap.size 0 [.int .u32 K,.slice b8' S.length c8']):=(Upd.alloc (Upd.refl _ _) _).wr _ _ (.inl (Nat.le_refl _))
    have hb8:blk (wr (w6.alloc (.cells #[.int .u32 0,.slice none 0 0] 69)) w6.heap.size 0 [.int .u32 K,.slice b8' S.length c8']) w6.heap.size=some (#[.int .u32 K,.slice b8' S.length c8'],69,(0,0)):=by simp (disch:=(first|omega|(simp only [qI,qJ,qK]<;>omega)|exact qL _)) only [go_sem,↓reduceIte,n0,reduceCtorEq,n1,n2,n3,n4,n5,i0,i1,i2,i3,i4,i5,i6,i7]
    have hz8:(wr (w6.alloc (.cells #[.int .u32 0,.slice none 0 0] 69)) w6.heap.size 0 [.int .u32 K,.slice b8' S.length c8']).heap.size=w6.heap.size+1:=by simp only [size_wr,World.size_alloc]
    repeat ((first|refine qA rfl ?_|apply qB|refine qC rfl ?_|apply qD|apply qE|apply qF|apply qG|apply qH);try simp (disch:=(first|omega|(simp only [qI,qJ,qK]<;>omega)|exact qL _)) only [go_sem,↓reduceIte,n0,reduceCtorEq,n1,n2,n3,n4,n5,i0,i1,i2,i3,i4,i5,i6,i7,h33,h32',h31,h3,hx6,hxe,hbt,cellsAt_two,Int.toNat_natCast])
    generalize (wr (w6.alloc (.cells #[.int .u32 0,.slice none 0 0] 69)) w6.heap.size 0 [.int .u32 K,.slice b8' S.length c8'])=w8' at *
    have hbt8:=hE8.blk_some hbt id
    have hbv8:=(hbv.weaken (ok':=fun b=>ok b∧b < w.heap.size) fun b h1 h2=>⟨h2,h1⟩).keep (Ext.keeps (hE06.trans hE8) _)
    have hg8:=hg.ext hE8
    have hMd:Upd (ownB v) w8' (w8'.alloc (.cells #[.int .u32 K,.slice b8' S.length c8'] 66)):=(Upd.refl _ _).alloc _
    have hx9:TagC (fun b=>(fun b=>okN ok w.heap.size b∧b≠w.heap.size+1∧b≠w.heap.size+2) b∧b≠w.heap.size+2∧¬ ownB v b) (w8'.alloc (.cells #[.int .u32 K,(.slice b8' S.length c8')] 66)) (K,S) [.int .u32 K,(.slice b8' S.length c8')] :=
     ⟨(.slice b8' S.length c8'),rfl,(hbv8.keep (Ext.keeps (Upd.alloc (Upd.refl _ _) _) _)).weaken fun b _ hk=>⟨⟨.inl hk.1,by omega,by omega⟩,by omega,fun h=>by have:=hg.above h;omega⟩,h32⟩
    have hg9:=hg8.ext (Upd.alloc (Upd.refl _ _) (.cells #[.int .u32 K,(.slice b8' S.length c8')] 66))
    obtain ⟨css9,hown9,hall9⟩:=hg9.ex
    have hcl9:=hall9.1
    refine wp_append ap_24_24 (m:=1) (news:=[.int .u32 K,(.slice b8' S.length c8')]) (n:=css9.length) (cs:=css9.flatten) (v:=v) ?_ rfl hown9.1 hall9.flat_cells (Src.blk (fr:=(0,0)) (T:=66) (blk_alloc_new (by first|rfl|omega)) rfl (flat_tag hx9).1) ?_ ?_ ?_
    ·simp (disch:=(first|omega|(simp only [qI,qJ,qK]<;>omega)|exact qL _)) only [go_sem,↓reduceIte,n0,reduceCtorEq,n1,n2,n3,n4,n5,i0,i1,i2,i3,i4,i5,i6,i7]
    ·simp only [World.size_alloc];omega
    ·omega
    intro v' w10 ho hu hfr
    have hg10:=GrowU.snoc hown9 hall9 hx9 hu hfr ho
    have hz10:=hu.size
    simp only [World.size_alloc] at hz10
    obtain ⟨va,vc,hv',_⟩:=ho.shape
    subst hv'
    have htb:¬ ownB (.slice va (css9.length+1) vc) (w.heap.size+2):=fun h=>by
     rcases hfr _ h with h|h
     ·exact hnb _ (.inl (by omega)) h
     ·simp only [World.size_alloc] at h;omega
    have hbt10:=(hMd.trans hu).blk_some hbt8 (hnb _ (by omega))
    simp (disch:=(first|omega|(simp only [qI,qJ,qK]<;>omega)|exact qL _)) only [go_sem,↓reduceIte,n0,reduceCtorEq,n1,n2,n3,n4,n5,i0,i1,i2,i3,i4,i5,i6,i7,h3,hbt10]
    repeat ((first|refine qA rfl ?_|apply qB|refine qC rfl ?_|apply qD|apply qE|apply qF|apply qG|apply qH);try simp (disch:=(first|omega|(simp only [qI,qJ,qK]<;>omega)|exact qL _)) only [go_sem,↓reduceIte,n0,reduceCtorEq,n1,n2,n3,n4,n5,i0,i1,i2,i3,i4,i5,i6,i7,h33])
    refine ⟨⟨j+1,.slice va (css9.length+1) vc,by omega,rfl,h32',h31,h2,h3,?_,?_,?_⟩,?_⟩
    ·simp (disch:=(first|omega|(simp only [qI,qJ,qK]<;>omega)|exact qL _)) only [go_sem,↓reduceIte,n0,reduceCtorEq,n1,n2,n3,n4,n5,i0,i1,i2,i3,i4,i5,i6,i7,hbt10]
    ·rw [hcat];exact hg10.upd ((Upd.refl _ _).wr _ _ (.inr rfl)) htb
    ·refine Upd.wr ?_ _ _ (.inr rfl)
     exact hU6.more (((hE8.mono fun _ h=>h.elim).trans hMd).trans hu) fun b hb h=>by have:=hg.above h;omega
    ·simp only [RowKit.intOf];omega
   ·have hjl:j=t.u.length:=by omega
    subst hjl
    rw [List.take_length] at hg
    obtain ⟨va,vc,hv',_⟩:=hg.shape
    subst hv'
    have hb16:=hU6.blk_some hb15 (by omega)
    repeat ((first|refine qA rfl ?_|apply qB|refine qC rfl ?_|apply qD|apply qE|apply qF|apply qG|apply qH);try simp (disch:=(first|omega|(simp only [qI,qJ,qK]<;>omega)|exact qL _)) only [go_sem,↓reduceIte,n0,reduceCtorEq,n1,n2,n3,n4,n5,i0,i1,i2,i3,i4,i5,i6,i7,h33,h32',h2,h3,hbt,hb16,cellsAt_five])
    refine ⟨⟨_,rfl,?_⟩,hE06.wr _ _ (.inl (by omega))⟩
    have hTL6:=hTL.keep (hU6.keeps fun b _ hk e=>by omega)
    have hTU6:=hg.tags (ok':=(fun b=>okN ok w.heap.size b∧b≠w.heap.size+1∧b≠w.heap.size+2)) (fun _ _ h=>h) (fun b hb=>⟨.inr (by omega),by omega,by omega⟩)
    have hS6:=(hS.weaken (ok':=fun b=>ok b∧b < w.heap.size) fun b h1 h2=>⟨h2,h1⟩).keep (Ext.keeps hE06 _)
    have hU9:Upd (fun b=>b=w.heap.size+1) w6 (wr w6 (w.heap.size+1) 0 [.int .i64 t.n,.slice bS t.s.length cS,.bool t.null,.slice al t.l.length cl',.slice va t.u.length vc]):=(Upd.refl _ _).wr _ _ (.inr rfl)
    have ht:t = .mk t.n t.s t.null t.l t.u:=by cases t;rfl
    rw [ht]
    exact TreeC.intro hn ((hS6.keep (hU9.keeps fun b _ hk e=>by omega)).weaken fun b _ hk=>.inl hk.1) ((hTL6.keep (hU9.keeps fun b _ hk e=>hk.1.2.1 e)).weaken fun b _ hk=>hk.1.1) ((hTU6.keep (hU9.keeps fun b _ hk e=>hk.2.1 e)).weaken fun b _ hk=>hk.1)

theorem got_fn {t:Tree} (h:Lists t):∀ (ok:Blocks) (ct:List Value) (w:World),TreeC ok w t ct→Fn Tryz.prog 12 #[.agg ct.toArray] w fun r w'=>TreeRg ok w w' r t∧Ext w w':=by
 induction h with
 | mk hl hu he ih=>exact got_step _ hl hu ih
end Ms

namespace Ms
open Go

theorem beN_append (a b:List UInt8):beN (a++b)=beN a * 256 ^ b.length+beN b:=by
 have:∀ (b:List UInt8) (n:Nat),b.foldl (fun a b=>a * 256+b.toNat) n=n * 256 ^ b.length+beN b:=by
  intro b
  induction b with
  | nil=>intro n;simp [beN]
  | cons x b ih =>
   intro n
   have h1:=ih (n * 256+x.toNat)
   have h2:=ih x.toNat
   have e:beN (x :: b)=x.toNat * 256 ^ b.length+beN b:=by
    show (x :: b).foldl (fun a b=>a * 256+b.toNat) 0=_
    rw [List.foldl_cons,Nat.zero_mul,Nat.zero_add];exact h2
   rw [List.foldl_cons,h1,e,List.length_cons,Nat.pow_succ]
   rw [Nat.add_mul,Nat.mul_assoc,Nat.mul_comm 256,Nat.add_assoc]
 unfold beN
 rw [List.foldl_append]
 exact this b _
theorem emod_mul (x m:Int) (hm:0 < m):x % (m * 256)=m * (x / m % 256)+x % m:=by
 have h1:=Int.emod_add_mul_ediv x m
 have h2:=Int.emod_add_mul_ediv (x / m) 256
 have h3:=Int.emod_nonneg x (show m≠0 by omega)
 have h4:=Int.emod_lt_of_pos x hm
 have h5:=Int.emod_nonneg (x / m) (show (256:Int)≠0 by omega)
 have h6:=Int.emod_lt_of_pos (x / m) (show (0:Int) < 256 by omega)
 generalize x % m=r at *
 generalize x / m=q at *
 generalize q % 256=r' at *
 generalize q / 256=q' at *
 have e:x=(m * r'+r)+m * 256 * q':=by
  rw [← h1,← h2,Int.mul_add,Int.mul_assoc];omega
 rw [e,Int.add_mul_emod_self_left]
 have h7:m * r'≤m * 255:=Int.mul_le_mul_of_nonneg_left (by omega) (by omega)
 have h8:0≤m * r':=Int.mul_nonneg (by omega) h5
 exact Int.emod_eq_of_lt (by omega) (by omega)
theorem beN_fixed (x:Int):∀ k,((beN (fixedS x k):Nat):Int)=x % ((256 ^ k:Nat):Int)
 | 0=>by simp [fixedS,beN,Int.emod_one]
 | k+1=>by
  have ih:=beN_fixed x k
  have e:fixedS x (k+1)=[b8 (x.fdiv (2 ^ (8 * k)))]++fixedS x k:=rfl
  have hp:(2:Int) ^ (8 * k)=((256 ^ k:Nat):Int):=by rw [Int.pow_mul];simp
  have hpos:0 < ((256 ^ k:Nat):Int):=by exact_mod_cast Nat.pow_pos (by omega)
  rw [e,beN_append,beN_1,fixedS_len,Int.natCast_add,Int.natCast_mul,b8_toNat,ih,hp,Int.fdiv_eq_ediv_of_nonneg _ (by omega),Nat.pow_succ,Int.natCast_mul]
  rw [show ((256:Nat):Int)=256 from rfl,emod_mul x _ hpos,Int.mul_comm]
theorem rdN_app (n:Nat) (a r:List UInt8) (h:a.length=n):rdN n (some (a++r))=(a,some r):=by
 rw [rdN_some (by rw [List.length_append];omega)]
 subst h
 simp
theorem rdInt_fixed (k:IntKind) (n:Nat) (x:Int) (r:List UInt8) (h:k.wrap (x % ((256 ^ n:Nat):Int))=k.wrap x):rdInt k n (some (fixedS x n++r))=(k.wrap x,some r):=by
 rw [rdInt,rdN_app n _ r (fixedS_len _ _)]
 simp only
 rw [beN_fixed,h]
theorem rd_i8 (x:Int) (r:List UInt8):rdInt .i8 1 (some (fixedS x 1++r))=(IntKind.i8.wrap x,some r):=rdInt_fixed _ _ _ _ (by unfold IntKind.wrap;simp [IntKind.bits,IntKind.signed])
theorem rd_i16 (x:Int) (r:List UInt8):rdInt .i16 2 (some (fixedS x 2++r))=(IntKind.i16.wrap x,some r):=rdInt_fixed _ _ _ _ (by unfold IntKind.wrap;simp [IntKind.bits,IntKind.signed])
theorem rd_u16 (x:Int) (r:List UInt8):rdInt .u16 2 (some (fixedS x 2++r))=(IntKind.u16.wrap x,some r):=rdInt_fixed _ _ _ _ (by unfold IntKind.wrap;simp [IntKind.bits,IntKind.signed])
theorem rd_i32 (x:Int) (r:List UInt8):rdInt .i32 4 (some (fixedS x 4++r))=(IntKind.i32.wrap x,some r):=rdInt_fixed _ _ _ _ (by unfold IntKind.wrap;simp [IntKind.bits,IntKind.signed])
theorem rd_i64 (x:Int) (r:List UInt8):rdInt .i64 8 (some (fixedS x 8++r))=(IntKind.i64.wrap x,some r):=rdInt_fixed _ _ _ _ (by unfold IntKind.wrap;simp [IntKind.bits,IntKind.signed])

theorem uvD_uvar : ∀ (k n:Nat) (r:List UInt8),n < 16 * 128 ^ k→uvD k (uvarS n++r)=some (n,r)
 | 0,n,r,h=>by
  rw [uvarS_small (by omega)]
  have:(b8 (n:Int)).toNat=n:=by have:=b8_toNat (n:Int);omega
  simp only [List.cons_append,List.nil_append,uvD,this]
  rw [if_pos (by omega)]
 | k+1,n,r,h=>by
  rcases Nat.lt_or_ge 127 n with hn|hn
  ·rw [uvarS_big hn,List.cons_append]
   have hb:(b8 ((n % 128:Nat)+128:Int)).toNat=n % 128+128:=by
    have:=b8_toNat ((n % 128:Nat)+128:Int);omega
   have hq:n / 128 < 16 * 128 ^ k:=by
    rw [Nat.div_lt_iff_lt_mul (by omega)]
    rw [Nat.pow_succ] at h;omega
   simp only [uvD,hb]
   rw [if_neg (by omega),uvD_uvar k (n / 128) r hq,Option.map_some]
   simp only [Option.some.injEq,Prod.mk.injEq,and_true]
   omega
  ·rw [uvarS_small hn]
   have:(b8 (n:Int)).toNat=n:=by have:=b8_toNat (n:Int);omega
   simp only [List.cons_append,List.nil_append,uvD,this]
   rw [if_pos (by omega)]
theorem rdUv_uvar (n:Nat) (r:List UInt8) (h:n < 4294967296):rdUv (some (uvarS n++r))=(n,some r):=by
 unfold rdUv
 simp only [uvD_uvar 4 n r (by omega)]
theorem rdSpan_app (s r:List UInt8):rdSpan (s.length:Int) (some (s++r))=(s,some r):=by
 rw [rdSpan_good (by rw [List.length_append];omega)];simp
theorem rdSpan_16 (s r:List UInt8):rdSpan 16 (some (uuidS s++r))=(uuidS s,some r):=by
 have:=rdSpan_app (uuidS s) r
 rw [uuidS_len] at this;exact this

def cn1 (pt:List Fld→Tree→Tree) (kind:Int) (sub:List Fld) (null:Bool) (t:Tree):Tree :=
 if kind=0 then .num (t.n % 2)
 else if kind=7 then .oct false (uuidS t.s)
 else if kind=8∨kind=9 then .oct null (if null=true then [] else wholeS t.s)
 else if kind=10 then pt sub t
 else .num ((kindK kind).wrap t.n)
def cnF (pt:List Fld→Tree→Tree) (v:Int) (f:Fld) (t:Tree):Tree :=
 if f.kind=11 then .mk 0 [] (nilS f v (if nullS f v t=true then -1 else (thingsS t.l).length)) (if nullS f v t=true then [] else (thingsS t.l).map (cn1 pt f.of f.sub false)) []
 else cn1 pt f.kind f.sub (nullS f v t) t
def cnL (pt:List Fld→Tree→Tree) (dp:List Fld→Tree) (v:Int) (t:Tree):List Fld→Nat→List Tree
 | [],_=>[]
 | f :: fs,i=>(if f.tag < 0∧hasS f v=true then cnF pt v f (t.at i) else dfF dp f) :: cnL pt dp v t fs (i+1)
def cnP : Nat→Int→Bool→List Fld→Tree→Tree
 | 0,_,_,_,_=>.zero
 | d+1,v,flex,fs,t=>.mk 0 [] false (cnL (cnP d v flex) (dfP d) v t fs 0) (if flex=true then (unknownS fs t.u).map fun u=>(u.1,wholeS u.2) else [])

def numK (k:Int):Prop:=k=1∨k=2∨k=3∨k=4∨k=5
instance (k : Int):Decidable (numK k):=by unfold numK;infer_instance
theorem rdLen_counted (flex null:Bool) (m:Nat) (r:List UInt8) (hm:m≤32767) :
  rdLen flex .i16 2 (some (countedS flex null m 2++r))=(if null=true then -1 else (m:Int),some r)∧rdLen flex .i32 4 (some (countedS flex null m 4++r))=(if null=true then -1 else (m:Int),some r):=by
 cases flex with
 | true =>
  rw [rdLen_t,rdLen_t]
  cases null with
  | true =>
   have:∀ n,countedS true true m n=uvarS 0:=fun n=>by rw [counted_none,if_pos rfl,uvarS_small (by omega)];rfl
   rw [this,this,rdUv_uvar 0 r (by omega)];exact ⟨rfl,rfl⟩
  | false =>
   have:∀ n,countedS true false m n=uvarS (m+1):=fun n=>by rw [counted_some,if_pos rfl]
   rw [this,this,rdUv_uvar (m+1) r (by omega)]
   simp
 | false =>
  rw [rdLen_f,rdLen_f]
  cases null with
  | true =>
   have:∀ n,countedS false true m n=fixedS (-1) n:=fun n=>by rw [counted_none];simp
   rw [this,this,rd_i16,rd_i32];exact ⟨rfl,rfl⟩
  | false =>
   have:∀ n,countedS false false m n=fixedS m n:=fun n=>by rw [counted_some];simp
   rw [this,this,rd_i16,rd_i32]
   rw [i16_wrap (by omega),i32_wrap (by omega)]
   simp
theorem rdCnt_counted (flex null:Bool) (m:Nat) (r:List UInt8) (hm:m≤32767):rdCnt flex (some (countedS flex null m 4++r))=(if null=true then -1 else (m:Int),some r):=by
 have h:=(rdLen_counted flex null m r hm).2
 cases flex with
 | true =>
  rw [rdLen_t] at h
  rw [rdCnt_t]
  simp only [Prod.mk.injEq] at h ⊢
  refine ⟨?_,h.2⟩
  have h1:=h.1
  cases null with
  | true =>
   simp only [if_true] at h1 ⊢
   rw [show (((rdUv (some (countedS true true m 4++r))).1:Nat):Int)=0 by omega];rfl
  | false =>
   simp only [Bool.false_eq_true,if_false] at h1 ⊢
   rw [show (((rdUv (some (countedS true false m 4++r))).1:Nat):Int)=(m:Int)+1 by omega,i32_wrap (x:=(m:Int)+1) (by omega),i32_wrap (x:=(m:Int)+1 - 1) (by omega)]
   omega
 | false=>rw [rdLen_f] at h;rw [rdCnt_f];exact h

section
variable {pr : List Fld→St→Tree × St} {pw:List Fld→Int→Bool→Tree→List UInt8} {pc:List Fld→Tree→Tree} {v:Int} {flex:Bool}
theorem rd1_value (kind:Int) (sub:List Fld) (null may:Bool) (t:Tree) (r:List UInt8) (hk:kind=0∨numK kind∨(7≤kind∧kind≤10)) (hm:null=true→may=true) (hp:kind=10→pr sub (some (pw sub v flex t++r))=(pc sub t,some r)) :
  rd1 pr kind sub may flex (some (valueS pw kind sub null v flex t++r))=(cn1 pc kind sub null t,some r):=by
 have hwl:=wholeS_len t.s
 have hl:=fun m h=>rdLen_counted flex null m (((if null=true then [] else wholeS t.s))++r) h
 have hs:∀ (s:List UInt8),s=(if null=true then [] else wholeS t.s)→s.length≤32767:=fun s e=>by
  rw [e];split
  ·simp
  ·exact hwl
 by_cases h0:kind=0
 ·subst h0
  have e1:valueS pw 0 sub null v flex t=[b8 (t.n % 2)]:=by simp [valueS]
  have e2:cn1 pc 0 sub null t = .num (t.n % 2):=by simp [cn1]
  have e3:∀ st,rd1 pr 0 sub may flex st=(.num (if beN (rdN 1 st).1=0 then 0 else 1),(rdN 1 st).2):=fun st=>by simp [rd1]
  rw [e1,e2,e3,rdN_app 1 _ r rfl]
  simp only [beN_1]
  have hb:=b8_toNat (t.n % 2)
  congr 2
  split<;>omega
 by_cases h7:kind=7
 ·subst h7
  have e1:valueS pw 7 sub null v flex t=uuidS t.s:=by simp [valueS,uuidS]
  have e2:cn1 pc 7 sub null t = .oct false (uuidS t.s):=by simp [cn1]
  have e3:∀ st,rd1 pr 7 sub may flex st=(.oct false (uuidS (rdSpan 16 st).1),(rdSpan 16 st).2):=fun st=>by simp [rd1]
  rw [e1,e2,e3,rdSpan_16]
  have e:uuidS (uuidS t.s)=uuidS t.s:=by
   have hu:=uuidS_len t.s
   generalize uuidS t.s=x at *
   unfold uuidS
   rw [List.take_of_length_le (by omega),hu]
   simp
  simp only [e]
 by_cases h8:kind=8
 ·subst h8
  obtain ⟨s,es⟩:∃ s,s=(if null=true then [] else wholeS t.s):=⟨_,rfl⟩
  have e1:valueS pw 8 sub null v flex t=countedS flex null s.length 2++s:=by rw [es];simp [valueS]
  have e2:cn1 pc 8 sub null t = .oct null s:=by rw [es];simp [cn1]
  have e3:∀ st,rd1 pr 8 sub may flex st=if may=true then (.oct (rdNStr flex st).1.1 (rdNStr flex st).1.2,(rdNStr flex st).2) else (.oct false (rdStr flex st).1,(rdStr flex st).2):=fun st=>by simp [rd1]
  rw [e1,e2,e3]
  rw [← es] at hl
  have hL:=(hl s.length (hs s es)).1
  rw [← List.append_assoc] at hL
  have hst:null=false→rdStr flex (some (countedS flex null s.length 2++s++r))=(s,some r):=fun hn=>by
   unfold rdStr;rw [hL,hn];exact rdSpan_app s r
  cases null with
  | true =>
   have:=hm rfl;subst this
   simp only [if_true] at hL es ⊢
   unfold rdNStr
   rw [hL]
   simp only
   rw [if_pos (by decide)]
   subst es;rfl
  | false =>
   have hst:=hst rfl
   cases may with
   | false=>simp only [Bool.false_eq_true,if_false,hst]
   | true =>
    simp only [if_true]
    unfold rdNStr
    rw [hL,hst]
    simp only [Bool.false_eq_true,if_false]
    rw [if_neg (by omega)]
 by_cases h9:kind=9
 ·subst h9
  obtain ⟨s,es⟩:∃ s,s=(if null=true then [] else wholeS t.s):=⟨_,rfl⟩
  have e1:valueS pw 9 sub null v flex t=countedS flex null s.length 4++s:=by rw [es];simp [valueS]
  have e2:cn1 pc 9 sub null t = .oct null s:=by rw [es];simp [cn1]
  have e3:∀ st,rd1 pr 9 sub may flex st=if may=true then (.oct (rdNBytes flex st).1.1 (rdNBytes flex st).1.2,(rdNBytes flex st).2) else (.oct (rdBytes flex st).1.1 (rdBytes flex st).1.2,(rdBytes flex st).2):=fun st=>by simp [rd1]
  rw [e1,e2,e3]
  rw [← es] at hl
  have hL:=(hl s.length (hs s es)).2
  rw [← List.append_assoc] at hL
  have hst:null=false→rdOct flex (some (countedS flex null s.length 4++s++r))=(s,some r):=fun hn=>by
   unfold rdOct;rw [hL,hn];exact rdSpan_app s r
  cases null with
  | true =>
   have:=hm rfl;subst this
   simp only [if_true] at hL es ⊢
   unfold rdNBytes
   rw [hL]
   simp only
   rw [if_pos (by decide)]
   subst es;rfl
  | false =>
   have hst:=hst rfl
   cases may with
   | false =>
    simp only [Bool.false_eq_true,if_false]
    unfold rdBytes
    rw [hL,hst]
    simp only [Bool.false_eq_true,if_false]
    rw [if_neg (by omega)]
    rfl
   | true =>
    simp only [if_true]
    unfold rdNBytes
    rw [hL,hst]
    simp only [Bool.false_eq_true,if_false]
    rw [if_neg (by omega)]
    rfl
 by_cases h10:kind=10
 ·subst h10
  have e1:valueS pw 10 sub null v flex t=pw sub v flex t:=by simp [valueS]
  have e2:cn1 pc 10 sub null t=pc sub t:=by simp [cn1]
  have e3:∀ st,rd1 pr 10 sub may flex st=pr sub st:=fun st=>by simp [rd1]
  rw [e1,e2,e3];exact hp rfl
 have hn:numK kind:=by rcases hk with h|h|h<;>first|exact h|omega
 rcases hn with h|h|h|h|h<;>subst h
 ·have:=rd_i8 t.n r;simp [rd1,valueS,cn1,kindK,widthS,this]
 ·have:=rd_i16 t.n r;simp [rd1,valueS,cn1,kindK,widthS,this]
 ·have:=rd_i32 t.n r;simp [rd1,valueS,cn1,kindK,widthS,this]
 ·have:=rd_i64 t.n r;simp [rd1,valueS,cn1,kindK,widthS,this]
 ·have:=rd_u16 t.n r;simp [rd1,valueS,cn1,kindK,widthS,this]
theorem valueS_pos (kind:Int) (sub:List Fld) (null:Bool) (t:Tree) (hk:kind=0∨numK kind∨(7≤kind∧kind≤10)) (hp:kind=10→1≤(pw sub v flex t).length):1≤(valueS pw kind sub null v flex t).length:=by
 have hc:∀ n m,1≤n→1≤(countedS flex null m n).length:=fun n m hn=>by
  unfold countedS
  split
  ·simp
  ·split
   ·exact uvarS_pos _
   ·split<;>rw [fixedS_len]<;>omega
 unfold valueS
 split
 ·simp
 ·split
  ·simp;omega
  ·split
   ·rw [List.length_append];have:=hc 2 (if null=true then [] else wholeS t.s).length (by omega);omega
   ·split
    ·rw [List.length_append];have:=hc 4 (if null=true then [] else wholeS t.s).length (by omega);omega
    ·split
     ·rename_i h;exact hp h
     ·rw [fixedS_len];unfold widthS;repeat (first|omega|split)
theorem rdMany_values (kind:Int) (sub:List Fld) (hk:kind=0∨numK kind∨(7≤kind∧kind≤10)):∀ (l:List Tree) (r:List UInt8),(∀ x∈l,kind=10→∀ r,pr sub (some (pw sub v flex x++r))=(pc sub x,some r)) →
  rdMany (rd1 pr kind sub false flex) l.length (some (l.flatMap (fun x=>valueS pw kind sub false v flex x)++r))=(l.map (cn1 pc kind sub false),some r)
 | [],r,_=>rfl
 | x :: l,r,h=>by
  have h1:=rd1_value (pr:=pr) (pw:=pw) (pc:=pc) (v:=v) (flex:=flex) kind sub false false x (l.flatMap (fun x=>valueS pw kind sub false v flex x)++r) hk (fun h=>h) (fun hk=>h x (by simp) hk _)
  have h2:=rdMany_values kind sub hk l r fun y hy=>h y (by simp [hy])
  rw [List.length_cons,List.flatMap_cons,List.append_assoc,rdMany,h1]
  simp only [h2,List.map_cons]
theorem rdF_field (f:Fld) (t:Tree) (r:List UInt8) (hk:f.kind=11∨f.kind=0∨numK f.kind∨(7≤f.kind∧f.kind≤10)) (ho:f.of=0∨numK f.of∨(7≤f.of∧f.of≤10)) (hn:¬ (f.kind=10∧0≤f.null))
  (hp:∀ x,(f.kind=10∧x=t)∨(f.kind=11∧f.of=10∧x∈t.l)→∀ r,pr f.sub (some (pw f.sub v flex x++r))=(pc f.sub x,some r)) (hpos:f.kind=11→f.of=10→∀ x∈t.l,1≤(pw f.sub v flex x).length) :
  rdF pr v flex f (some (fieldS pw f v flex t++r))=(cnF pc v f t,some r):=by
 unfold rdF cnF fieldS
 by_cases h11:f.kind=11
 ·rw [if_pos h11,if_pos h11,if_pos h11]
  unfold rdList
  obtain ⟨l,hl⟩:∃ l,l=(if nullS f v t=true then [] else thingsS t.l):=⟨_,rfl⟩
  have hmem:∀ x∈l,x∈t.l:=fun x hx=>by
   rw [hl] at hx
   split at hx
   ·cases hx
   ·exact List.mem_of_mem_take hx
  have hlen:l.length≤32767:=by
   rw [hl];split
   ·simp
   ·simp only [thingsS,List.length_take];omega
  rw [← hl,List.append_assoc]
  have hc:=rdCnt_counted flex (nullS f v t) l.length (l.flatMap (fun x=>valueS pw f.of f.sub false v flex x)++r) hlen
  have hge:l.length≤(l.flatMap fun x=>valueS pw f.of f.sub false v flex x).length:=by
   have:∀ (l:List Tree),(∀ x∈l,x∈t.l)→l.length≤(l.flatMap fun x=>valueS pw f.of f.sub false v flex x).length:=by
    intro l
    induction l with
    | nil=>intro _;simp
    | cons x l ih =>
     intro h
     have h1:=valueS_pos (pw:=pw) (v:=v) (flex:=flex) f.of f.sub false x ho (fun h10=>hpos h11 h10 x (h x (by simp)))
     have h2:=ih fun y hy=>h y (by simp [hy])
     rw [List.flatMap_cons,List.length_append,List.length_cons];omega
   exact this l hmem
  have ha:rdALen flex (some (countedS flex (nullS f v t) l.length 4++(l.flatMap (fun x=>valueS pw f.of f.sub false v flex x)++r)))=(if nullS f v t=true then -1 else (l.length:Int),some (l.flatMap (fun x=>valueS pw f.of f.sub false v flex x)++r)):=by
   unfold rdALen
   rw [hc,if_neg]
   simp only [stLen,Option.getD_some,List.length_append]
   split<;>omega
  have hM:=rdMany_values (pr:=pr) (pw:=pw) (pc:=pc) (v:=v) (flex:=flex) f.of f.sub ho l r fun x hx h10 r=>hp x (.inr ⟨h11,h10,hmem x hx⟩) r
  rw [ha]
  have hq:(if nullS f v t=true then (-1:Int) else (l.length:Int)).toNat=l.length:=by
   split
   ·rename_i h;rw [if_pos h] at hl;rw [hl];rfl
   ·simp
  simp only [hq,hM]
  congr 1
  cases hnu:nullS f v t with
  | true=>rw [hnu] at hl;simp only [if_true] at hl;subst hl;rfl
  | false=>rw [hnu] at hl;simp only [Bool.false_eq_true,if_false] at hl;subst hl;rfl
 ·rw [if_neg h11,if_neg h11,if_neg h11,if_neg hn]
  refine rd1_value f.kind f.sub (nullS f v t) (mayS f v) t r (by rcases hk with h|h|h|h<;>first|exact absurd h h11|simp [h]) (fun h => ?_) (fun h10=>hp t (.inl ⟨h10,rfl⟩) r)
  unfold nullS at h
  unfold mayS
  simp only [Bool.and_eq_true,decide_eq_true_eq] at h ⊢
  exact ⟨h.1.2,h.2⟩
end

theorem Sized.el {N:Nat} {t:Tree} (h:Sized N t) {k:Nat} (hk:k < t.l.length):∃ M,Sized M t.l[k]:=by
 cases h with
 | mk ns hl he hk' hN=>exact ⟨_,he k hk (by simp only [Tree.l] at hk;omega)⟩
theorem rdTag_unk (u:List TagD) (x:TagD) (r:List UInt8) (hk:x.1 < 4294967296):rdTag u (some (unkT x++r))=(tagPut u (x.1,wholeS x.2),some r):=by
 have hw:=wholeS_len x.2
 have e:unkT x++r=uvarS x.1++(uvarS (wholeS x.2).length++(wholeS x.2++r)):=by simp [unkT,oneTag]
 unfold rdTag
 rw [e,rdUv_uvar _ _ hk]
 simp only
 rw [rdUv_uvar _ _ (by omega)]
 simp only
 rw [rdSpan_app]
theorem rdTagsN_unk : ∀ (l acc:List TagD) (r:List UInt8),(∀ x∈l,x.1 < 4294967296)→(∀ x∈l,∀ y∈acc,y.1≠x.1)→l.Pairwise (fun a b=>a.1≠b.1) →
  rdTagsN l.length acc (some (l.flatMap unkT++r))=(acc++l.map fun u=>(u.1,wholeS u.2),some r)
 | [],acc,r,_,_,_=>by simp [rdTagsN]
 | x :: l,acc,r,h1,h2,h3=>by
  rw [List.length_cons,List.flatMap_cons,List.append_assoc,rdTagsN,rdTag_unk acc x _ (h1 x (by simp))]
  have hn:tagPut acc (x.1,wholeS x.2)=acc++[(x.1,wholeS x.2)]:=tagPut_new fun z hz=>h2 x (by simp) z hz
  simp only [hn]
  rw [List.pairwise_cons] at h3
  rw [rdTagsN_unk l _ r (fun y hy=>h1 y (by simp [hy])) (fun y hy z hz=>by
   rcases List.mem_append.1 hz with hz|hz
   ·exact h2 y (by simp [hy]) z hz
   ·simp only [List.mem_singleton] at hz;rw [hz];exact h3.1 y hy) h3.2]
  simp
theorem rdTags_unk (fs:List Fld) (u:List TagD) (r:List UInt8) (hk:∀ x∈u,x.1 < 4294967296) :
  rdTags (some (uvarS (unknownS fs u).length++((unknownS fs u).flatMap unkT++r)))=((unknownS fs u).map fun u=>(u.1,wholeS u.2),some r):=by
 have h:=unknownS_spec fs u
 have hl:=unknownS_len' fs u
 unfold rdTags
 rw [rdUv_uvar _ _ (by omega)]
 simp only
 rw [rdTagsN_unk _ _ _ (fun x hx=>hk x (h.2 x hx).1) (fun _ _ _ h=>by cases h) (h.1.imp fun h=>by omega)]
 simp

def wideS (v:Int) (flex:Bool) (fs:List Fld):Bool:=flex || fs.any fun f=>decide (f.tag < 0) && hasS f v
def okR : Nat→Int→Bool→List Fld→Bool
 | 0,_,_,fs=>fs.isEmpty
 | d+1,v,flex,fs=>fs.all fun f=>decide (f.tag < 0∧(f.kind=11∨f.kind=0∨numK f.kind∨(7≤f.kind∧f.kind≤10))∧(f.of=0∨numK f.of∨(7≤f.of∧f.of≤10))∧¬ (f.kind=10∧0≤f.null)) && okR d v flex f.sub && (!(hasS f v) || wideS v flex f.sub || decide (¬ (f.kind=10∨(f.kind=11∧f.of=10))))
theorem okR_el {d:Nat} {v:Int} {flex:Bool} {fs:List Fld} (h:okR (d+1) v flex fs=true) {f:Fld} (hf:f∈fs) :
  f.tag < 0∧(f.kind=11∨f.kind=0∨numK f.kind∨(7≤f.kind∧f.kind≤10))∧(f.of=0∨numK f.of∨(7≤f.of∧f.of≤10))∧¬ (f.kind=10∧0≤f.null)∧okR d v flex f.sub=true∧(hasS f v=true→(f.kind=10∨(f.kind=11∧f.of=10))→wideS v flex f.sub=true):=by
 simp only [okR,List.all_eq_true] at h
 have:=h f hf
 rw [Bool.and_eq_true,Bool.and_eq_true,decide_eq_true_eq] at this
 obtain ⟨⟨⟨h1,h2,h3,h4⟩,h5⟩,h6⟩:=this
 refine ⟨h1,h2,h3,h4,h5,fun h7 h8 => ?_⟩
 rw [h7] at h6
 simp only [Bool.not_true,Bool.false_or,Bool.or_eq_true,decide_eq_true_eq] at h6
 rcases h6 with h6|h6
 ·exact h6
 ·exact absurd h8 h6
section
variable {pr : List Fld→St→Tree × St} {pw:List Fld→Int→Bool→Tree→List UInt8} {pc:List Fld→Tree→Tree} {v:Int} {flex:Bool}
theorem fieldS_pos (f:Fld) (t:Tree) (hk:f.kind=11∨f.kind=0∨numK f.kind∨(7≤f.kind∧f.kind≤10)) (hn:¬ (f.kind=10∧0≤f.null)) (hp:f.kind=10→1≤(pw f.sub v flex t).length):1≤(fieldS pw f v flex t).length:=by
 unfold fieldS
 by_cases h11:f.kind=11
 ·rw [if_pos h11,List.length_append]
  have hc:∀ m,1≤(countedS flex (nullS f v t) m 4).length:=fun m=>by
   unfold countedS
   split
   ·simp
   ·split
    ·exact uvarS_pos _
    ·split<;>rw [fixedS_len]<;>omega
  have:=hc (if nullS f v t=true then [] else thingsS t.l).length
  omega
 ·rw [if_neg h11,if_neg hn]
  exact valueS_pos _ _ _ _ (by rcases hk with h|h|h|h<;>first|exact absurd h h11|simp [h]) hp
theorem rdL_plain (dp:List Fld→Tree) (t:Tree):∀ (fs:List Fld) (i:Nat) (r:List UInt8),
  (∀ f∈fs,hasS f v=true→∀ (i:Nat) (r:List UInt8),rdF pr v flex f (some (fieldS pw f v flex (t.at i)++r))=(cnF pc v f (t.at i),some r)) →
  rdL pr dp v flex fs (some (plainL pw v flex t fs i++r))=(cnL pc dp v t fs i,some r)
 | [],_,r,_=>rfl
 | f :: fs,i,r,h=>by
  have ih:=fun r=>rdL_plain dp t fs (i+1) r fun g hg=>h g (by simp [hg])
  rw [rdL,plainL,cnL]
  by_cases hc:f.tag < 0∧hasS f v=true
  ·rw [if_pos hc,if_pos hc,if_pos hc,List.append_assoc,h f (by simp) hc.2 i _]
   simp only [ih]
  ·rw [if_neg hc,if_neg hc,if_neg hc,List.nil_append]
   simp only [ih]
end
theorem rdP_part (v:Int) (flex:Bool):∀ (d:Nat) (fs:List Fld) (N:Nat) (t:Tree),okR d v flex fs=true→Sized N t →
  (∀ r,rdP (d+1) v flex fs (some (partS (d+1) fs v flex t++r))=(cnP (d+1) v flex fs t,some r))∧(wideS v flex fs=true→1≤(partS (d+1) fs v flex t).length):=by
 intro d
 have key:∀ (d:Nat) (fs:List Fld) (t:Tree),(∀ f∈fs,f.tag < 0)→(∀ x∈t.u,x.1 < 4294967296) →
   (∀ f∈fs,hasS f v=true→∀ (i:Nat) (r:List UInt8),rdF (rdP d v flex) v flex f (some (fieldS (partS d) f v flex (t.at i)++r))=(cnF (cnP d v flex) v f (t.at i),some r)) →
   (∀ f∈fs,hasS f v=true→∀ (i:Nat),1≤(fieldS (partS d) f v flex (t.at i)).length) →
   (∀ r,rdP (d+1) v flex fs (some (partS (d+1) fs v flex t++r))=(cnP (d+1) v flex fs t,some r))∧(wideS v flex fs=true→1≤(partS (d+1) fs v flex t).length):=by
  intro d fs t htag hu h hpos
  have hk:=knownS_none htag
  have e2:tagsS (partS d) (d+1) fs v flex t=[]:=by unfold tagsS;rw [hk];rfl
  have hp:=fun r=>rdL_plain (pr:=rdP d v flex) (pw:=partS d) (pc:=cnP d v flex) (flex:=flex) (dfP d) t fs 0 r h
  constructor
  ·intro r
   rw [partS_eq]
   unfold partT
   rw [plainS_L,e2]
   rw [rdP,cnP]
   cases flex with
   | true =>
    simp only [if_true,List.length_nil,Nat.zero_add,List.flatMap_nil,List.nil_append,List.append_assoc]
    rw [hp]
    simp only [rdTags_unk fs t.u r hu]
   | false =>
    simp only [Bool.false_eq_true,if_false]
    rw [hp]
  ·intro hw
   rw [partS_eq]
   unfold partT
   cases flex with
   | true =>
    rw [if_pos rfl,List.length_append,List.length_append]
    have:=uvarS_pos ((tagsS (partS d) (d+1) fs v true t).length+(unknownS fs t.u).length)
    omega
   | false =>
    rw [if_neg (by decide),plainS_L]
    simp only [wideS,Bool.false_or,List.any_eq_true,Bool.and_eq_true,decide_eq_true_eq] at hw
    obtain ⟨f,hf,h1,h2⟩:=hw
    have:∀ (l:List Fld) (i:Nat),f∈l→(∀ g∈l,g∈fs)→1≤(plainL (partS d) v false t l i).length:=by
     intro l
     induction l with
     | nil=>intro _ h;cases h
     | cons g l ih =>
      intro i hm hs
      rw [plainL,List.length_append]
      rcases List.mem_cons.1 hm with rfl|hm
      ·rw [if_pos ⟨h1,h2⟩]
       have:=hpos f hf h2 i
       omega
      ·have:=ih (i+1) hm fun g hg=>hs g (by simp [hg])
       omega
    exact this fs 0 hf fun _ h=>h
 induction d with
 | zero =>
  intro fs N t h hs
  have hnil:fs=[]:=by simpa [okR] using h
  subst hnil
  have hu:∀ x∈t.u,x.1 < 4294967296:=by
   cases hs with
   | mk ns hl he hk hN=>exact hk
  exact key 0 [] t (fun _ h=>by cases h) hu (fun _ h=>by cases h) (fun _ h=>by cases h)
 | succ d ih =>
  intro fs N t h hs
  have hu:∀ x∈t.u,x.1 < 4294967296:=by
   cases hs with
   | mk ns hl he hk hN=>exact hk
  have sub:∀ (f:Fld) (i:Nat),okR d v flex f.sub=true→∀ x,(f.kind=10∧x=t.at i)∨(f.kind=11∧f.of=10∧x∈(t.at i).l)→∃ M,Sized M x:=by
   intro f i _ x hx
   have ha:=hs.at i
   rcases hx with ⟨_,rfl⟩|⟨_,_,hx⟩
   ·exact ⟨_,ha⟩
   ·obtain ⟨k,hk,rfl⟩:=List.getElem_of_mem hx
    exact ha.el hk
  refine key (d+1) fs t (fun f hf=>(okR_el h hf).1) hu (fun f hf hh i r => ?_) (fun f hf hh i => ?_)
  ·obtain ⟨g1,g2,g3,g4,g5,g6⟩:=okR_el h hf
   refine rdF_field f (t.at i) r g2 g3 g4 (fun x hx r => ?_) (fun h11 h10 x hx => ?_)
   ·obtain ⟨M,hM⟩:=sub f i g5 x hx
    exact (ih f.sub M x g5 hM).1 r
   ·obtain ⟨M,hM⟩:=sub f i g5 x (.inr ⟨h11,h10,hx⟩)
    exact (ih f.sub M x g5 hM).2 (g6 hh (.inr ⟨h11,h10⟩))
  ·obtain ⟨g1,g2,g3,g4,g5,g6⟩:=okR_el h hf
   refine fieldS_pos f (t.at i) g2 g4 fun h10 => ?_
   obtain ⟨M,hM⟩:=sub f i g5 (t.at i) (.inl ⟨h10,rfl⟩)
   exact (ih f.sub M (t.at i) g5 hM).2 (g6 hh (.inl h10))
end Ms

