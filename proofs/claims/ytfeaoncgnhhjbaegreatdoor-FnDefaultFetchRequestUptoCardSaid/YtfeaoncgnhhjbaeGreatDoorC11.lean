/- A part of the proof: see the last text. -/
import Derived.Test.YtfeaoncgnhhjbaeGreatDoorC02
import Derived.Test.YtfeaoncgnhhjbaeGreatDoorC03
import Derived.Test.YtfeaoncgnhhjbaeGreatDoorC05
import Derived.Test.YtfeaoncgnhhjbaeGreatDoorC09
import Derived.Test.YtfeaoncgnhhjbaeGreatDoorC10
set_option linter.unusedSimpArgs false
set_option linter.unusedVariables false
namespace Ms
open Go.World renaming size_alloc → qI
open Ms renaming size_wr → qJ,size_drew → qK,not_noB → qL
open W renaming seqF → qA,seq → qB,regF → qC,condK → qD,block → qE,skip → qF,ret → qG,exit → qH
set_option maxRecDepth 8000
set_option maxHeartbeats 2000000
open Go Go.Proofs Go.Shelf
attribute [local congr] W_congr WPsq_congr WPp_congr optK_congr addrK_congr intK_congr boolK_congr sliceK_congr tupleK_congr funcK_congr Fn_congr rawK_congr takeK_congr stepK_congr convK_congr aggK_congr

theorem got_step (t:Tree) (hl2:t.l.length≤32767) (hl3:t.u.length≤32767)
  (hrec:∀ i (h:i < t.l.length),∀ (ok:Blocks) (ct:List Value) (w:World),TreeC ok w t.l[i] ct→Fn Tryz.prog 11 #[.agg ct.toArray] w fun r w'=>TreeRg ok w w' r t.l[i]∧Ext w w')
  (ok:Blocks) (ct:List Value) (w:World) (ht:TreeC ok w t ct) :
  Fn Tryz.prog 11 #[.agg ct.toArray] w fun r w'=>TreeRg ok w w' r t∧Ext w w':=by
 obtain ⟨vS,vL,vU,rfl,hn,hS,hL,hU⟩:=ht.inv
 obtain ⟨bS,cS,rfl,hcS⟩:=hS.shape
 obtain ⟨bl,cl,rfl,hcl⟩:=SlR.shape hL
 obtain ⟨bu,cu,rfl,hcu⟩:=SlR.shape hU
 have hE:Ext w (wr (((w.alloc (.cells #[.int .i64 t.n,.slice bS t.s.length cS,.bool t.null,.slice bl t.l.length cl,.slice bu t.u.length cu] 37)).alloc (.cells #[.int .i64 0,.slice none 0 0,.bool false,.slice none 0 0,.slice none 0 0] 26)).alloc (.cells #[.int .i64 0,.slice none 0 0,.bool false,.slice none 0 0,.slice none 0 0] 26)) (w.heap.size+2) 0 [.int .i64 t.n,.slice bS t.s.length cS,.bool t.null,.slice none 0 0,.slice none 0 0]):=(((Upd.refl _ _).alloc _).alloc _).alloc _ |>.wr _ _ (.inl (by omega))
 refine fn_of_W Tryz.func11 rfl Tryz.results11 Tryz.ntmps11 rfl ?_
 repeat ((first|refine qA ?_|apply qB|refine qC ?_|apply qD|apply qE|apply qF|apply qG|apply qH);try simp (disch:=(first|omega|(simp only [qI,qJ,qK]<;>omega)|exact qL _)) only [go_sem])
 have hb0:blk (wr (((w.alloc (.cells #[.int .i64 t.n,.slice bS t.s.length cS,.bool t.null,.slice bl t.l.length cl,.slice bu t.u.length cu] 37)).alloc (.cells #[.int .i64 0,.slice none 0 0,.bool false,.slice none 0 0,.slice none 0 0] 26)).alloc (.cells #[.int .i64 0,.slice none 0 0,.bool false,.slice none 0 0,.slice none 0 0] 26)) (w.heap.size+2) 0 [.int .i64 t.n,.slice bS t.s.length cS,.bool t.null,.slice none 0 0,.slice none 0 0]) w.heap.size=some (#[.int .i64 t.n,.slice bS t.s.length cS,.bool t.null,.slice bl t.l.length cl,.slice bu t.u.length cu],37,(0,0)):=by simp (disch:=(first|omega|(simp only [qI,qJ,qK]<;>omega)|exact qL _)) only [go_sem]
 have hb1:blk (wr (((w.alloc (.cells #[.int .i64 t.n,.slice bS t.s.length cS,.bool t.null,.slice bl t.l.length cl,.slice bu t.u.length cu] 37)).alloc (.cells #[.int .i64 0,.slice none 0 0,.bool false,.slice none 0 0,.slice none 0 0] 26)).alloc (.cells #[.int .i64 0,.slice none 0 0,.bool false,.slice none 0 0,.slice none 0 0] 26)) (w.heap.size+2) 0 [.int .i64 t.n,.slice bS t.s.length cS,.bool t.null,.slice none 0 0,.slice none 0 0]) (w.heap.size+1)=some (#[.int .i64 0,.slice none 0 0,.bool false,.slice none 0 0,.slice none 0 0],26,(0,0)):=by simp (disch:=(first|omega|(simp only [qI,qJ,qK]<;>omega)|exact qL _)) only [go_sem]
 have hb2:blk (wr (((w.alloc (.cells #[.int .i64 t.n,.slice bS t.s.length cS,.bool t.null,.slice bl t.l.length cl,.slice bu t.u.length cu] 37)).alloc (.cells #[.int .i64 0,.slice none 0 0,.bool false,.slice none 0 0,.slice none 0 0] 26)).alloc (.cells #[.int .i64 0,.slice none 0 0,.bool false,.slice none 0 0,.slice none 0 0] 26)) (w.heap.size+2) 0 [.int .i64 t.n,.slice bS t.s.length cS,.bool t.null,.slice none 0 0,.slice none 0 0]) (w.heap.size+2)=some (#[.int .i64 t.n,.slice bS t.s.length cS,.bool t.null,.slice none 0 0,.slice none 0 0],26,(0,0)):=by simp (disch:=(first|omega|(simp only [qI,qJ,qK]<;>omega)|exact qL _)) only [go_sem]
 have hz2:(wr (((w.alloc (.cells #[.int .i64 t.n,.slice bS t.s.length cS,.bool t.null,.slice bl t.l.length cl,.slice bu t.u.length cu] 37)).alloc (.cells #[.int .i64 0,.slice none 0 0,.bool false,.slice none 0 0,.slice none 0 0] 26)).alloc (.cells #[.int .i64 0,.slice none 0 0,.bool false,.slice none 0 0,.slice none 0 0] 26)) (w.heap.size+2) 0 [.int .i64 t.n,.slice bS t.s.length cS,.bool t.null,.slice none 0 0,.slice none 0 0]).heap.size=w.heap.size+3:=by simp only [size_wr,World.size_alloc]
 generalize (wr (((w.alloc (.cells #[.int .i64 t.n,.slice bS t.s.length cS,.bool t.null,.slice bl t.l.length cl,.slice bu t.u.length cu] 37)).alloc (.cells #[.int .i64 0,.slice none 0 0,.bool false,.slice none 0 0,.slice none 0 0] 26)).alloc (.cells #[.int .i64 0,.slice none 0 0,.bool false,.slice none 0 0,.slice none 0 0] 26)) (w.heap.size+2) 0 [.int .i64 t.n,.slice bS t.s.length cS,.bool t.null,.slice none 0 0,.slice none 0 0])=w2 at *
 refine W.exitJ 0 (fun ρ w'=>∃ v,ρ 1 = .pointer (some ⟨w.heap.size,0,none⟩)∧ρ 2 = .pointer (some ⟨w.heap.size+1,0,none⟩)∧ρ 3 = .pointer (some ⟨w.heap.size+2,0,none⟩) ∧
   blk w' (w.heap.size+2)=some (#[.int .i64 t.n,.slice bS t.s.length cS,.bool t.null,v,.slice none 0 0],26,(0,0))∧GrowT (fun b=>okN ok w.heap.size b∧b≠w.heap.size+1∧b≠w.heap.size+2) w2.heap.size (w.heap.size+2) w' 26 v t.l∧Upd (fun b=>b=w.heap.size+2) w2 w')
  (W.loop (fun ρ w'=>∃ (j:Nat) (v:Value),j≤t.l.length∧ρ 18 = .int .i64 j∧ρ 17 = .int .i64 t.l.length∧ρ 16 = .slice bl t.l.length cl∧ρ 1 = .pointer (some ⟨w.heap.size,0,none⟩)∧ρ 2 = .pointer (some ⟨w.heap.size+1,0,none⟩)∧ρ 3 = .pointer (some ⟨w.heap.size+2,0,none⟩) ∧
   blk w' (w.heap.size+2)=some (#[.int .i64 t.n,.slice bS t.s.length cS,.bool t.null,v,.slice none 0 0],26,(0,0))∧GrowT (fun b=>okN ok w.heap.size b∧b≠w.heap.size+1∧b≠w.heap.size+2) w2.heap.size (w.heap.size+2) w' 26 v (t.l.take j)∧Upd (fun b=>b=w.heap.size+2) w2 w')
  (fun ρ _=>t.l.length - (RowKit.intOf (ρ 18)).toNat) ?_ ?_) ?_
 ·refine ⟨0,_,Nat.zero_le _,?_,?_,?_,?_,?_,?_,hb2,GrowT.nil _ _ _ _ _,Upd.refl _ _⟩<;>simp (disch:=(first|omega|(simp only [qI,qJ,qK]<;>omega)|exact qL _)) only [go_sem]
  all_goals rfl
 ·rintro ρ w6 ⟨j,v,hj,h18,h17,h16,h1,h2,h3,hbt,hg,hU6⟩
  have hz6:=hU6.size
  have hE06:Ext w w6:=hE.more hU6 fun b hb h=>by omega
  by_cases hlt:j < t.l.length
  ·obtain ⟨_,b,o,x,vS',vL',vU',hb,hokb,hx,hblt,hxs,hxe,g1,g2,g3,hc⟩:=TreesV.get hL hlt
   subst hb
   have hx6:blk w6 b=some x:=hE06.blk_some hx id
   have hcat:t.l.take (j+1)=t.l.take j++[t.l[j]]:=List.take_succ_eq_append_getElem hlt
   have aQ:(t.l.take j).length=j:=by simp;omega
   have hnb:∀ b,b < w2.heap.size∨b=w6.heap.size→¬ ownB v b:=fun b hb h=>by
    have:=hg.above h
    have:=hg.below h
    omega
   have hE7:Ext w6 (wr (w6.alloc (.cells #[.int .i64 0,.slice none 0 0,.bool false,.slice none 0 0,.slice none 0 0] 37)) w6.heap.size 0 [.int .i64 t.l[j].n,vS',.bool t.l[j].null,vL',vU']):=(Upd.alloc (Upd.refl _ _) _).wr _ _ (.inl (Nat.le_refl _))
   have hb7:blk (wr (w6.alloc (.cells #[.int .i64 0,.slice none 0 0,.bool false,.slice none 0 0,.slice none 0 0] 37)) w6.heap.size 0 [.int .i64 t.l[j].n,vS',.bool t.l[j].null,vL',vU']) w6.heap.size=some (#[.int .i64 t.l[j].n,vS',.bool t.l[j].null,vL',vU'],37,(0,0)):=by simp (disch:=(first|omega|(simp only [qI,qJ,qK]<;>omega)|exact qL _)) only [go_sem]
   have hz7:(wr (w6.alloc (.cells #[.int .i64 0,.slice none 0 0,.bool false,.slice none 0 0,.slice none 0 0] 37)) w6.heap.size 0 [.int .i64 t.l[j].n,vS',.bool t.l[j].null,vL',vU']).heap.size=w6.heap.size+1:=by simp only [size_wr,World.size_alloc]
   have hrecj:=hrec j hlt (fun b=>ok b∧b < w.heap.size) [.int .i64 t.l[j].n,vS',.bool t.l[j].null,vL',vU']
   repeat ((first|refine qA ?_|apply qB|refine qC ?_|apply qD|apply qE|apply qF|apply qG|apply qH);try simp (disch:=(first|omega|(simp only [qI,qJ,qK]<;>omega)|exact qL _)) only [go_sem,h18,h17,h16,hx6,hxe,g1,g2,g3,cellsAt_five,Int.toNat_natCast])
   generalize (wr (w6.alloc (.cells #[.int .i64 0,.slice none 0 0,.bool false,.slice none 0 0,.slice none 0 0] 37)) w6.heap.size 0 [.int .i64 t.l[j].n,vS',.bool t.l[j].null,vL',vU'])=w7 at *
   have aG:=hE7.blk_some hbt id
   refine W.drawR (.take 0 (.take 1 (.take 2 (.only 3 (.only 4 (.only 5 (.take 6 (.last 7)))))))) (ownB v) mixed (by kernel_rfl) ?_
   simp (disch:=(first|omega|(simp only [qI,qJ,qK]<;>omega)|exact qL _|(refine hnb _ ?_;first|omega|(simp only [World.size_alloc,size_wr,size_drew]<;>omega)))) only [go_sem,h3,aG,hb7,cellsAt_five,cellsAt_eight]
   have hE7d:Ext w7 w7.drew:=(Upd.refl _ _).drew
   have hE07d:Ext w w7.drew:=(hE06.trans hE7).trans hE7d
   have hzd:w7.drew.heap.size=w7.heap.size:=size_drew _
   refine (hrecj w7.drew ((hc.weaken fun b h1 h2=>⟨h2,h1⟩).keep (hE07d.keeps _))).mono ?_
   rintro v8 w8 ⟨⟨c8,rfl,hc8⟩,hE8⟩
   generalize t.l[j] = T at *
   obtain ⟨vS8,vL8,vU8,rfl,aR,hS8,aI,hU8⟩:=hc8.inv
   have k1:=hS8.flat
   have k2:=SlR.flat aI
   have k3:=SlR.flat hU8
   have hz8:=hE8.size
   simp only [size_drew] at hz8
   have hM8:Upd (ownB v) w7.drew w8:=hE8.mono (fun _ h=>h.elim)
   have aF:Ext w6 w8:=(hE7.trans hE7d).trans hE8
   have hE9:Ext w8 (w8.alloc (.cells #[.int .i64 T.n,vS8,.bool T.null,vL8,vU8] 26)):=Upd.alloc (Upd.refl _ _) _
   have aB:Upd (ownB v) w7.drew (w8.alloc (.cells #[.int .i64 T.n,vS8,.bool T.null,vL8,vU8] 26)):=hM8.alloc _
   refine ⟨hM8,?_⟩
   simp (disch:=(first|omega|(simp only [qI,qJ,qK]<;>omega)|exact qL _)) only [go_sem,k1,k2,k3]
   refine ⟨aB,?_⟩
   have aE:=(hg.ext aF).ext hE9
   have hx9:TreeC (fun b=>(fun b=>okN ok w.heap.size b∧b≠w.heap.size+1∧b≠w.heap.size+2) b∧b≠w.heap.size+2∧¬ ownB v b) (w8.alloc (.cells #[.int .i64 T.n,vS8,.bool T.null,vL8,vU8] 26)) T [.int .i64 T.n,vS8,.bool T.null,vL8,vU8] :=
    (hc8.keep (hE9.keeps _)).weaken fun b _ hk=>by
     rcases hk with ⟨h1,h2⟩|h2
     ·exact ⟨⟨.inl h1,by omega,by omega⟩,by omega,fun h=>by have:=hg.above h;omega⟩
     ·exact ⟨⟨.inr (by omega),by omega,by omega⟩,by omega,fun h=>by have:=hg.below h;omega⟩
   obtain ⟨css,hown,hall⟩:=aE.ex
   have aO:=hall.1
   refine wp_append ap_23_23 (m:=1) (news:=[.int .i64 T.n,vS8,.bool T.null,vL8,vU8]) (n:=css.length) (cs:=css.flatten) (v:=v) ?_ rfl hown.1 (all2_flat_tree hall) (Src.blk (fr:=(0,0)) (T:=26) (blk_alloc_new rfl) rfl (flat_tree hx9).1) ?_ ?_ ?_
   ·simp (disch:=(first|omega|(simp only [qI,qJ,qK]<;>omega)|exact qL _)) only [go_sem]
   ·simp only [World.size_alloc];omega
   ·omega
   intro v' w10 ho hu hfr
   have aD:=GrowT.snoc hown hall hx9 hu hfr ho
   have hz10:=hu.size
   simp only [World.size_alloc] at hz10
   obtain ⟨va,vc,hv',_⟩:=ho.shape
   subst hv'
   have a8:=(aB.trans hu).blk_some (hE7d.blk_some aG id) (hnb _ (by omega))
   have htb:¬ ownB (.slice va (css.length+1) vc) (w.heap.size+2):=fun h=>by
    rcases hfr _ h with h|h
    ·exact hnb _ (.inl (by omega)) h
    ·simp only [World.size_alloc] at h;omega
   simp (disch:=(first|omega|(simp only [qI,qJ,qK]<;>omega)|exact qL _)) only [go_sem]
   refine ⟨aB.trans hu,?_⟩
   simp (disch:=(first|omega|(simp only [qI,qJ,qK]<;>omega)|exact qL _)) only [go_sem,h3,a8]
   repeat ((first|refine qA ?_|apply qB|refine qC ?_|apply qD|apply qE|apply qF|apply qG|apply qH);try simp (disch:=(first|omega|(simp only [qI,qJ,qK]<;>omega)|exact qL _)) only [go_sem,h18])
   refine ⟨⟨j+1,.slice va (css.length+1) vc,by omega,rfl,h17,h16,h1,h2,h3,?_,?_,?_⟩,?_⟩
   ·simp (disch:=(first|omega|(simp only [qI,qJ,qK]<;>omega)|exact qL _)) only [go_sem,a8]
   ·rw [hcat];exact aD.upd ((Upd.refl _ _).wr _ _ (.inr rfl)) htb
   ·refine Upd.wr ?_ _ _ (.inr rfl)
    exact hU6.more (((aF.trans hE9).mono fun _ h=>h.elim).trans hu) fun b hb h=>by have:=hg.above h;omega
   ·simp only [RowKit.intOf];omega
  ·have hjl:j=t.l.length:=by omega
   subst hjl
   rw [List.take_length] at hg
   repeat ((first|refine qA ?_|apply qB|refine qC ?_|apply qD|apply qE|apply qF|apply qG|apply qH);try simp (disch:=(first|omega|(simp only [qI,qJ,qK]<;>omega)|exact qL _)) only [go_sem,h18,h17])
   exact ⟨v,h1,h2,h3,hbt,hg,hU6⟩
 ·rintro ρ w5 ⟨vl,h1,h2,h3,hbt,hg,hU5⟩
  have hz5:=hU5.size
  have hE05:Ext w w5:=hE.more hU5 fun b hb h=>by omega
  have hb05:=hU5.blk_some hb0 (by omega)
  have hb15:=hU5.blk_some hb1 (by omega)
  obtain ⟨al,cl',hvl,hcl'⟩:=hg.shape
  subst hvl
  have hTL:TreesV (fun b=>(fun b=>okN ok w.heap.size b∧b≠w.heap.size+1∧b≠w.heap.size+2) b∧b < w5.heap.size) w5 (.slice al t.l.length cl') t.l :=
   (hg.trees (ok':=(fun b=>okN ok w.heap.size b∧b≠w.heap.size+1∧b≠w.heap.size+2)) (fun _ _ h=>h) (fun b hb=>⟨.inr (by omega),by omega,by omega⟩)).weaken fun b h1 h2=>⟨h2,h1⟩
  simp (disch:=(first|omega|(simp only [qI,qJ,qK]<;>omega)|exact qL _)) only [go_sem]
  repeat ((first|refine qA ?_|apply qB|refine qC ?_|apply qD|apply qE|apply qF|apply qG|apply qH);try simp (disch:=(first|omega|(simp only [qI,qJ,qK]<;>omega)|exact qL _)) only [go_sem,h1,hb05])
  refine W.loop (fun ρ w'=>∃ (j:Nat) (v:Value),j≤t.u.length∧ρ 33 = .int .i64 j∧ρ 32 = .int .i64 t.u.length∧ρ 31 = .slice bu t.u.length cu∧ρ 2 = .pointer (some ⟨w.heap.size+1,0,none⟩)∧ρ 3 = .pointer (some ⟨w.heap.size+2,0,none⟩) ∧
    blk w' (w.heap.size+2)=some (#[.int .i64 t.n,.slice bS t.s.length cS,.bool t.null,.slice al t.l.length cl',v],26,(0,0))∧GrowU (fun b=>okN ok w.heap.size b∧b≠w.heap.size+1∧b≠w.heap.size+2) w5.heap.size (w.heap.size+2) w' 63 v (t.u.take j)∧Upd (fun b=>b=w.heap.size+2) w5 w')
   (fun ρ _=>t.u.length - (RowKit.intOf (ρ 33)).toNat) ?_ ?_
  ·refine ⟨0,_,Nat.zero_le _,?_,?_,?_,?_,?_,hbt,GrowU.nil _ _ _ _ _,Upd.refl _ _⟩<;>simp (disch:=(first|omega|(simp only [qI,qJ,qK]<;>omega)|exact qL _)) only [go_sem,h2,h3]
   all_goals rfl
  ·clear h1 h2 h3 hg hbt
   rintro ρ w6 ⟨j,v,hj,aA,h32',h31,h2,h3,hbt,hg,hU6⟩
   have hz6:=hU6.size
   have hE06:Ext w w6:=hE05.more hU6 fun b hb h=>by omega
   by_cases hlt:j < t.u.length
   ·obtain ⟨_,b,o,x,vv,hb,hokb,hx,hblt,hxs,hxe,_,_,hfv,hbv,h32⟩:=TagsV.get hU hlt
    subst hb
    have hx6:blk w6 b=some x:=hE06.blk_some hx id
    have hcat:t.u.take (j+1)=t.u.take j++[(t.u[j].1,t.u[j].2)]:=List.take_succ_eq_append_getElem hlt
    have aQ:(t.u.take j).length=j:=by simp;omega
    have hnb:∀ b,b < w5.heap.size∨b=w6.heap.size→¬ ownB v b:=fun b hb h=>by
     have:=hg.above h
     have:=hg.below h
     omega
    generalize t.u[j].1=K at *
    generalize t.u[j].2=S at *
    obtain ⟨b8',c8',rfl,_⟩:=hbv.shape
    have hE8:Ext w6 (wr (w6.alloc (.cells #[.int .u32 0,.slice none 0 0] 62)) w6.heap.size 0 [.int .u32 K,.slice b8' S.length c8']):=(Upd.alloc (Upd.refl _ _) _).wr _ _ (.inl (Nat.le_refl _))
    have hb8:blk (wr (w6.alloc (.cells #[.int .u32 0,.slice none 0 0] 62)) w6.heap.size 0 [.int .u32 K,.slice b8' S.length c8']) w6.heap.size=some (#[.int .u32 K,.slice b8' S.length c8'],62,(0,0)):=by simp (disch:=(first|omega|(simp only [qI,qJ,qK]<;>omega)|exact qL _)) only [go_sem]
    have hz8:(wr (w6.alloc (.cells #[.int .u32 0,.slice none 0 0] 62)) w6.heap.size 0 [.int .u32 K,.slice b8' S.length c8']).heap.size=w6.heap.size+1:=by simp only [size_wr,World.size_alloc]
    repeat ((first|refine qA ?_|apply qB|refine qC ?_|apply qD|apply qE|apply qF|apply qG|apply qH);try simp (disch:=(first|omega|(simp only [qI,qJ,qK]<;>omega)|exact qL _)) only [go_sem,aA,h32',h31,h3,hx6,hxe,hbt,cellsAt_two,Int.toNat_natCast])
    generalize (wr (w6.alloc (.cells #[.int .u32 0,.slice none 0 0] 62)) w6.heap.size 0 [.int .u32 K,.slice b8' S.length c8'])=w8' at *
    have aM:=hE8.blk_some hbt id
    have aN:=(hbv.weaken (ok':=fun b=>ok b∧b < w.heap.size) fun b h1 h2=>⟨h2,h1⟩).keep (Ext.keeps (hE06.trans hE8) _)
    have aP:=hg.ext hE8
    have hMd:Upd (ownB v) w8' (w8'.alloc (.cells #[.int .u32 K,.slice b8' S.length c8'] 63)):=(Upd.refl _ _).alloc _
    have hx9:TagC (fun b=>(fun b=>okN ok w.heap.size b∧b≠w.heap.size+1∧b≠w.heap.size+2) b∧b≠w.heap.size+2∧¬ ownB v b) (w8'.alloc (.cells #[.int .u32 K,(.slice b8' S.length c8')] 63)) (K,S) [.int .u32 K,(.slice b8' S.length c8')] :=
     ⟨(.slice b8' S.length c8'),rfl,(aN.keep (Ext.keeps (Upd.alloc (Upd.refl _ _) _) _)).weaken fun b _ hk=>⟨⟨.inl hk.1,by omega,by omega⟩,by omega,fun h=>by have:=hg.above h;omega⟩,h32⟩
    have aE:=aP.ext (Upd.alloc (Upd.refl _ _) (.cells #[.int .u32 K,(.slice b8' S.length c8')] 63))
    obtain ⟨css9,aH,aC⟩:=aE.ex
    have aO:=aC.1
    refine wp_append ap_24_24 (m:=1) (news:=[.int .u32 K,(.slice b8' S.length c8')]) (n:=css9.length) (cs:=css9.flatten) (v:=v) ?_ rfl aH.1 aC.flat_cells (Src.blk (fr:=(0,0)) (T:=63) (blk_alloc_new (by first|rfl|omega)) rfl (flat_tag hx9).1) ?_ ?_ ?_
    ·simp (disch:=(first|omega|(simp only [qI,qJ,qK]<;>omega)|exact qL _)) only [go_sem]
    ·simp only [World.size_alloc];omega
    ·omega
    intro v' w10 ho hu hfr
    have aD:=GrowU.snoc aH aC hx9 hu hfr ho
    have hz10:=hu.size
    simp only [World.size_alloc] at hz10
    obtain ⟨va,vc,hv',_⟩:=ho.shape
    subst hv'
    have htb:¬ ownB (.slice va (css9.length+1) vc) (w.heap.size+2):=fun h=>by
     rcases hfr _ h with h|h
     ·exact hnb _ (.inl (by omega)) h
     ·simp only [World.size_alloc] at h;omega
    have a8:=(hMd.trans hu).blk_some aM (hnb _ (by omega))
    simp (disch:=(first|omega|(simp only [qI,qJ,qK]<;>omega)|exact qL _)) only [go_sem,h3,a8]
    repeat ((first|refine qA ?_|apply qB|refine qC ?_|apply qD|apply qE|apply qF|apply qG|apply qH);try simp (disch:=(first|omega|(simp only [qI,qJ,qK]<;>omega)|exact qL _)) only [go_sem,aA])
    refine ⟨⟨j+1,.slice va (css9.length+1) vc,by omega,rfl,h32',h31,h2,h3,?_,?_,?_⟩,?_⟩
    ·simp (disch:=(first|omega|(simp only [qI,qJ,qK]<;>omega)|exact qL _)) only [go_sem,a8]
    ·rw [hcat];exact aD.upd ((Upd.refl _ _).wr _ _ (.inr rfl)) htb
    ·refine Upd.wr ?_ _ _ (.inr rfl)
     exact hU6.more (((hE8.mono fun _ h=>h.elim).trans hMd).trans hu) fun b hb h=>by have:=hg.above h;omega
    ·simp only [RowKit.intOf];omega
   ·have hjl:j=t.u.length:=by omega
    subst hjl
    rw [List.take_length] at hg
    obtain ⟨va,vc,hv',_⟩:=hg.shape
    subst hv'
    have hb16:=hU6.blk_some hb15 (by omega)
    repeat ((first|refine qA ?_|apply qB|refine qC ?_|apply qD|apply qE|apply qF|apply qG|apply qH);try simp (disch:=(first|omega|(simp only [qI,qJ,qK]<;>omega)|exact qL _)) only [go_sem,aA,h32',h2,h3,hbt,hb16,cellsAt_five])
    refine ⟨⟨_,rfl,?_⟩,hE06.wr _ _ (.inl (by omega))⟩
    have aJ:=hTL.keep (hU6.keeps fun b _ hk e=>by omega)
    have aK:=hg.tags (ok':=(fun b=>okN ok w.heap.size b∧b≠w.heap.size+1∧b≠w.heap.size+2)) (fun _ _ h=>h) (fun b hb=>⟨.inr (by omega),by omega,by omega⟩)
    have hS6:=(hS.weaken (ok':=fun b=>ok b∧b < w.heap.size) fun b h1 h2=>⟨h2,h1⟩).keep (Ext.keeps hE06 _)
    have hU9:Upd (fun b=>b=w.heap.size+1) w6 (wr w6 (w.heap.size+1) 0 [.int .i64 t.n,.slice bS t.s.length cS,.bool t.null,.slice al t.l.length cl',.slice va t.u.length vc]):=(Upd.refl _ _).wr _ _ (.inr rfl)
    have ht:t = .mk t.n t.s t.null t.l t.u:=by cases t;rfl
    rw [ht]
    exact TreeC.intro hn ((hS6.keep (hU9.keeps fun b _ hk e=>by omega)).weaken fun b _ hk=>.inl hk.1) ((aJ.keep (hU9.keeps fun b _ hk e=>hk.1.2.1 e)).weaken fun b _ hk=>hk.1.1) ((aK.keep (hU9.keeps fun b _ hk e=>hk.2.1 e)).weaken fun b _ hk=>hk.1)

theorem got_fn {t:Tree} (h:Lists t):∀ (ok:Blocks) (ct:List Value) (w:World),TreeC ok w t ct→Fn Tryz.prog 11 #[.agg ct.toArray] w fun r w'=>TreeRg ok w w' r t∧Ext w w':=by
 induction h with
 | mk hl hu he ih=>exact got_step _ hl hu ih

set_option maxHeartbeats 24000000
open Go Go.Proofs Go.Shelf
attribute [local congr] W_congr WPsq_congr WPp_congr optK_congr addrK_congr intK_congr boolK_congr sliceK_congr tupleK_congr funcK_congr Fn_congr rawK_congr takeK_congr stepK_congr convK_congr aggK_congr

theorem number_fn (k n:Int) (w:World):Fn Tryz.prog 24 #[.int .i64 k,.int .i64 n] w fun r w'=>r = .int .i64 (numS k n)∧w'=w:=by
 refine fn_of_W Tryz.func24 rfl Tryz.results24 Tryz.ntmps24 rfl ?_
 by_cases h0:k=0
 ·subst h0
  repeat ((first|refine qA ?_|apply qB|refine qC ?_|apply qD|apply qE|apply qF|apply qG|apply qH);try simp (disch:=(first|omega|(simp only [qI,qJ,qK]<;>omega)|exact qL _)) only [go_sem,and1])
  have e:(((n % 2).toNat:Nat):Int)=n % 2:=by omega
  try rw [e]
  all_goals rfl
 by_cases h1:k=1
 ·subst h1
  repeat ((first|refine qA ?_|apply qB|refine qC ?_|apply qD|apply qE|apply qF|apply qG|apply qH);try simp (disch:=(first|omega|(simp only [qI,qJ,qK]<;>omega)|exact qL _)) only [go_sem,tl8])
  all_goals rfl
 by_cases h2:k=2
 ·subst h2
  repeat ((first|refine qA ?_|apply qB|refine qC ?_|apply qD|apply qE|apply qF|apply qG|apply qH);try simp (disch:=(first|omega|(simp only [qI,qJ,qK]<;>omega)|exact qL _)) only [go_sem,tl16])
  all_goals rfl
 by_cases h3:k=3
 ·subst h3
  repeat ((first|refine qA ?_|apply qB|refine qC ?_|apply qD|apply qE|apply qF|apply qG|apply qH);try simp (disch:=(first|omega|(simp only [qI,qJ,qK]<;>omega)|exact qL _)) only [go_sem,tl32])
  all_goals rfl
 by_cases h5:k=5
 ·subst h5
  repeat ((first|refine qA ?_|apply qB|refine qC ?_|apply qD|apply qE|apply qF|apply qG|apply qH);try simp (disch:=(first|omega|(simp only [qI,qJ,qK]<;>omega)|exact qL _)) only [go_sem,tlu16])
  all_goals rfl
 repeat ((first|refine qA ?_|apply qB|refine qC ?_|apply qD|apply qE|apply qF|apply qG|apply qH);try simp (disch:=(first|omega|(simp only [qI,qJ,qK]<;>omega)|exact qL _)) only [go_sem])
 simp [numS,wrapN,h0,h1,h2,h3,h5]


set_option maxHeartbeats 24000000
open Go Go.Proofs Go.Shelf
attribute [local congr] W_congr WPsq_congr WPp_congr optK_congr addrK_congr intK_congr boolK_congr sliceK_congr tupleK_congr funcK_congr Fn_congr rawK_congr takeK_congr stepK_congr convK_congr aggK_congr

theorem Defaults_fn (fs:List Fld) (g:Tree) (vf:Value) (cg:List Value) (w:World) (hf:FldsV AnyB w vf fs) (hfl:fs.length≤1000) (hg:TreeC AnyB w g cg) (hsm:Small 4611686018427387903 g)
  (hd:∀ i (h:i < fs.length),fs[i].df=0∨(g.at i).n=numS fs[i].kind fs[i].df) :
  Fn Tryz.prog 10 #[vf,.agg cg.toArray] w fun r w'=>r = .bool true∧Ext w w':=by
 obtain ⟨bf,cf,rfl,hcf⟩:=SlR.shape hf
 obtain ⟨gS,gL,gU,rfl,hgn,hgS,hgL,hgU⟩:=hg.inv
 have hl1:=hsm.s
 have hl2:=hsm.l
 have k1:=hgS.flat
 have k2:=SlR.flat hgL
 have k3:=SlR.flat hgU
 have hE:Ext w (w.alloc (.cells #[.int .i64 g.n,gS,.bool g.null,gL,gU] 26)):=Upd.alloc (Upd.refl _ _) _
 refine fn_of_W Tryz.func10 rfl Tryz.results10 Tryz.ntmps10 rfl ?_
 repeat ((first|refine qA ?_|apply qB|refine qC ?_|apply qD|apply qE|apply qF|apply qG|apply qH);try simp (disch:=(first|omega|(simp only [qI,qJ,qK]<;>omega)|exact qL _)) only [go_sem,k1,k2,k3])
 have hb1:blk (w.alloc (.cells #[.int .i64 g.n,gS,.bool g.null,gL,gU] 26)) w.heap.size=some (#[.int .i64 g.n,gS,.bool g.null,gL,gU],26,(0,0)):=blk_alloc_new rfl
 have hz2:(w.alloc (.cells #[.int .i64 g.n,gS,.bool g.null,gL,gU] 26)).heap.size=w.heap.size+1:=by simp only [World.size_alloc]
 generalize (w.alloc (.cells #[.int .i64 g.n,gS,.bool g.null,gL,gU] 26))=w2 at *
 refine W.loop (LoopL [(8,.int .i64 fs.length),(7,.slice bf fs.length cf),(3,.pointer (some ⟨w.heap.size,0,none⟩))] 9 (fun j w'=>j≤fs.length∧Ext w2 w')) (fun ρ _=>fs.length - (RowKit.intOf (ρ 9)).toNat) ?_ ?_
 ·exact ⟨(by simp (disch:=(first|omega|(simp only [qI,qJ,qK]<;>omega)|exact qL _)) only [go_sem,Holds_nil,Holds_cons]),0,(by simp (disch:=(first|omega|(simp only [qI,qJ,qK]<;>omega)|exact qL _)) only [go_sem];all_goals rfl),Nat.zero_le _,Upd.refl _ _⟩
 rintro ρ w3 ⟨⟨h8,h7,h3,-⟩,j,h9,hj,hE3⟩
 have hz3:=hE3.size
 have hE03:Ext w w3:=hE.trans hE3
 have hb13:=hE3.blk_some hb1 id
 by_cases hlt:j < fs.length
 ·skip
  have hdj:=hd j hlt
  obtain ⟨_,b,o,x,vs2,hb,hokb,hx,hblt,hxs,hxe,hfl2,hsub2⟩:=FldsV.get hf hlt
  subst hb
  have hx3:blk w3 b=some x:=hE03.blk_some hx id
  generalize fs[j] = f at *
  have hE4:Ext w3 (wr (w3.alloc (.cells #[.int .i64 0,.int .i64 0,.int .i64 0,.int .i64 0,.int .i64 0,.int .i64 0,.int .i64 0,.slice none 0 0] 50)) w3.heap.size 0 [.int .i64 f.kind,.int .i64 f.fr,.int .i64 f.to,.int .i64 f.null,.int .i64 f.tag,.int .i64 f.df,.int .i64 f.of,vs2]):=(Upd.alloc (Upd.refl _ _) _).wr _ _ (.inl (Nat.le_refl _))
  have hb4:blk (wr (w3.alloc (.cells #[.int .i64 0,.int .i64 0,.int .i64 0,.int .i64 0,.int .i64 0,.int .i64 0,.int .i64 0,.slice none 0 0] 50)) w3.heap.size 0 [.int .i64 f.kind,.int .i64 f.fr,.int .i64 f.to,.int .i64 f.null,.int .i64 f.tag,.int .i64 f.df,.int .i64 f.of,vs2]) w3.heap.size=some (#[.int .i64 f.kind,.int .i64 f.fr,.int .i64 f.to,.int .i64 f.null,.int .i64 f.tag,.int .i64 f.df,.int .i64 f.of,vs2],50,(0,0)):=by rw [blk_wr_eq,blk_alloc_new rfl];rfl
  have hz4:(wr (w3.alloc (.cells #[.int .i64 0,.int .i64 0,.int .i64 0,.int .i64 0,.int .i64 0,.int .i64 0,.int .i64 0,.slice none 0 0] 50)) w3.heap.size 0 [.int .i64 f.kind,.int .i64 f.fr,.int .i64 f.to,.int .i64 f.null,.int .i64 f.tag,.int .i64 f.df,.int .i64 f.of,vs2]).heap.size=w3.heap.size+1:=by simp only [size_wr,World.size_alloc]
  repeat ((first|refine qA ?_|apply qB|refine qC ?_|apply qD|apply qE|apply qF|apply qG|apply qH);try simp (disch:=(first|omega|(simp only [qI,qJ,qK]<;>omega)|exact qL _)) only [go_sem,h9,h8,h7,hx3,hxe,hfl2,Int.toNat_natCast])
  generalize (wr (w3.alloc (.cells #[.int .i64 0,.int .i64 0,.int .i64 0,.int .i64 0,.int .i64 0,.int .i64 0,.int .i64 0,.slice none 0 0] 50)) w3.heap.size 0 [.int .i64 f.kind,.int .i64 f.fr,.int .i64 f.to,.int .i64 f.null,.int .i64 f.tag,.int .i64 f.df,.int .i64 f.of,vs2])=w4 at *
  have hE04:=hE03.trans hE4
  have hb14:=hE4.blk_some hb13 id
  have aA:=hE3.trans hE4
  have hEd:Ext w4 w4.drew:=(Upd.refl _ _).drew
  have hE0d:=hE04.trans hEd
  have a8:=aA.trans hEd
  refine W.drawR (.take 0 (.take 1 (.take 2 (.take 3 (.take 4 (.take 5 (.take 8 (.take 9 (.take 10 (.take 11 (.only 6 (.two 7 (.only 12 (.take 13 (.take 14 .done))) 12 (.only 7 (.take 13 (.take 14 .done))))))))))))))) NoB mixed (by kernel_rfl) ?_
  by_cases hz:f.df=0
  ·skip
   try simp (disch:=(first|omega|(simp only [qI,qJ,qK]<;>omega)|exact qL _)) only [go_sem,h3,hb4,hb14,hz,beq_self_eq_true,bne_self_eq_false,ne_eq,not_true_eq_false,not_false_eq_true]
   refine ⟨?_,?_⟩
   ·skip
    repeat ((first|refine qA ?_|apply qB|refine qC ?_|apply qD|apply qE|apply qF|apply qG|apply qH);try simp (disch:=(first|omega|(simp only [qI,qJ,qK]<;>omega)|exact qL _)) only [go_sem,h9])
    refine ⟨⟨(by simp (disch:=(first|omega|(simp only [qI,qJ,qK]<;>omega)|exact qL _)) only [go_sem,Holds_nil,Holds_cons,h8,h7,h3]),j+1,(by simp (disch:=(first|omega|(simp only [qI,qJ,qK]<;>omega)|exact qL _)) only [go_sem,h9];all_goals rfl),by omega,a8⟩,?_⟩
    try simp (disch:=(first|omega|(simp only [qI,qJ,qK]<;>omega)|exact qL _)) only [go_sem,h9]
    simp only [RowKit.intOf]
    omega
   ·skip
    repeat ((first|refine qA ?_|apply qB|refine qC ?_|apply qD|apply qE|apply qF|apply qG|apply qH);try simp (disch:=(first|omega|(simp only [qI,qJ,qK]<;>omega)|exact qL _)) only [go_sem,h9])
    refine ⟨⟨(by simp (disch:=(first|omega|(simp only [qI,qJ,qK]<;>omega)|exact qL _)) only [go_sem,Holds_nil,Holds_cons,h8,h7,h3]),j+1,(by simp (disch:=(first|omega|(simp only [qI,qJ,qK]<;>omega)|exact qL _)) only [go_sem,h9];all_goals rfl),by omega,a8⟩,?_⟩
    try simp (disch:=(first|omega|(simp only [qI,qJ,qK]<;>omega)|exact qL _)) only [go_sem,h9]
    simp only [RowKit.intOf]
    omega
  replace hdj:=hdj.resolve_left hz
  try simp (disch:=(first|omega|(simp only [qI,qJ,qK]<;>omega)|exact qL _)) only [go_sem,h3,hb4,hb14,hz,cellsAt_five,beq_self_eq_true,bne_self_eq_false,ne_eq,not_true_eq_false,not_false_eq_true]
  generalize w4.drew=w5 at *
  refine (at_fn (ok:=AnyB) g j _ w5 (hg.keep (Ext.keeps hE0d _)) (by omega) (by omega)).mono ?_
  rintro _ w6 ⟨⟨c6,rfl,hc6⟩,hE6⟩
  obtain ⟨xS,xL,xU,rfl,hxn,hxS,hxL,hxU⟩:=hc6.inv
  refine ⟨hE6,?_⟩
  try simp (disch:=(first|omega|(simp only [qI,qJ,qK]<;>omega)|exact qL _)) only [go_sem]
  refine ⟨?_,?_⟩
  ·skip
   refine ⟨hE6,?_⟩
   try simp (disch:=(first|omega|(simp only [qI,qJ,qK]<;>omega)|exact qL _)) only [go_sem]
   refine (number_fn f.kind f.df w6).mono ?_
   rintro _ wq ⟨rfl,hwq⟩
   obtain rfl:=hwq.symm
   refine ⟨hE6,?_⟩
   try simp (disch:=(first|omega|(simp only [qI,qJ,qK]<;>omega)|exact qL _)) only [go_sem,hdj,beq_self_eq_true,bne_self_eq_false,ne_eq,not_true_eq_false,not_false_eq_true]
   repeat ((first|refine qA ?_|apply qB|refine qC ?_|apply qD|apply qE|apply qF|apply qG|apply qH);try simp (disch:=(first|omega|(simp only [qI,qJ,qK]<;>omega)|exact qL _)) only [go_sem,hdj,h9,beq_self_eq_true,bne_self_eq_false,ne_eq,not_true_eq_false,not_false_eq_true])
   refine ⟨⟨(by simp (disch:=(first|omega|(simp only [qI,qJ,qK]<;>omega)|exact qL _)) only [go_sem,Holds_nil,Holds_cons,h8,h7,h3]),j+1,(by simp (disch:=(first|omega|(simp only [qI,qJ,qK]<;>omega)|exact qL _)) only [go_sem,h9];all_goals rfl),by omega,a8.trans hE6⟩,?_⟩
   try simp (disch:=(first|omega|(simp only [qI,qJ,qK]<;>omega)|exact qL _)) only [go_sem,h9]
   simp only [RowKit.intOf]
   omega
  ·skip
   refine (number_fn f.kind f.df w6).mono ?_
   rintro _ wq ⟨rfl,hwq⟩
   obtain rfl:=hwq.symm
   refine ⟨hE6,?_⟩
   try simp (disch:=(first|omega|(simp only [qI,qJ,qK]<;>omega)|exact qL _)) only [go_sem]
   refine ⟨hE6,?_⟩
   try simp (disch:=(first|omega|(simp only [qI,qJ,qK]<;>omega)|exact qL _)) only [go_sem,hdj,beq_self_eq_true,bne_self_eq_false,ne_eq,not_true_eq_false,not_false_eq_true]
   repeat ((first|refine qA ?_|apply qB|refine qC ?_|apply qD|apply qE|apply qF|apply qG|apply qH);try simp (disch:=(first|omega|(simp only [qI,qJ,qK]<;>omega)|exact qL _)) only [go_sem,hdj,h9,beq_self_eq_true,bne_self_eq_false,ne_eq,not_true_eq_false,not_false_eq_true])
   refine ⟨⟨(by simp (disch:=(first|omega|(simp only [qI,qJ,qK]<;>omega)|exact qL _)) only [go_sem,Holds_nil,Holds_cons,h8,h7,h3]),j+1,(by simp (disch:=(first|omega|(simp only [qI,qJ,qK]<;>omega)|exact qL _)) only [go_sem,h9];all_goals rfl),by omega,a8.trans hE6⟩,?_⟩
   try simp (disch:=(first|omega|(simp only [qI,qJ,qK]<;>omega)|exact qL _)) only [go_sem,h9]
   simp only [RowKit.intOf]
   omega
 repeat ((first|refine qA ?_|apply qB|refine qC ?_|apply qD|apply qE|apply qF|apply qG|apply qH);try simp (disch:=(first|omega|(simp only [qI,qJ,qK]<;>omega)|exact qL _)) only [go_sem,h9,h8])
 all_goals exact hE03
end Ms

namespace Ms
open Go

def cnQ : Nat→Int→Bool→List Fld→Tree→Tree
 | 0,_,_,_,_=>.zero
 | d+1,v,flex,fs,t=>.mk 0 [] false (cnT (cnQ d v flex) (dfP d) (d+1) v flex t fs 0) (if flex=true then (unknownS fs t.u).map fun u=>(u.1,wholeS u.2) else [])
theorem cnQ_s (v:Int) (flex:Bool) (d:Nat) (fs:List Fld) (t:Tree):(cnQ d v flex fs t).s=[]:=by cases d<;>rfl

/-! ### What is read is fit to be told -/
theorem cn1_goodP {d:Nat} {pc:List Fld→Tree→Tree} (k:Int) (sub:List Fld) (null:Bool) (x:Tree) (hs:(pc sub x).s=[]) (hp:k=10→GoodP d sub (pc sub x)):Good1 (GoodP d) k sub (cn1 pc k sub null x):=by
 unfold cn1
 by_cases h0:k=0
 ·rw [if_pos h0];exact good1_num (by omega) (by omega)
 rw [if_neg h0]
 by_cases h7:k=7
 ·rw [if_pos h7];exact good1_oct (by rw [uuidS_len];omega) (by omega)
 rw [if_neg h7]
 by_cases h8:k=8∨k=9
 ·rw [if_pos h8]
  refine good1_oct ?_ (by omega)
  split
  ·simp
  ·simp only [wholeS,List.length_take];omega
 rw [if_neg h8]
 by_cases h10:k=10
 ·rw [if_pos h10]
  exact ⟨fun h=>by omega,by rw [hs];simp,fun _=>hp h10⟩
 rw [if_neg h10]
 refine good1_num (fun h4 => ?_) h10
 subst h4
 exact i64_idem _
theorem cnF_goodP {d:Nat} {v:Int} {pc:List Fld→Tree→Tree} (f:Fld) (x:Tree) (hs:∀ y,(pc f.sub y).s=[]) (hp:f.kind=10∨f.of=10→∀ y,GoodP d f.sub (pc f.sub y)):GoodF (GoodP d) f (cnF pc v f x):=by
 unfold GoodF cnF
 by_cases h11:f.kind=11
 ·rw [if_pos h11,if_pos h11]
  simp only [Tree.l]
  split
  ·exact ⟨by simp,fun y hy=>by cases hy⟩
  ·refine ⟨by simp only [List.length_map,thingsS,List.length_take];omega,fun y hy => ?_⟩
   obtain ⟨z,_,rfl⟩:=List.mem_map.1 hy
   exact cn1_goodP _ _ _ _ (hs z) fun h=>hp (.inr h) z
 ·rw [if_neg h11,if_neg h11]
  split
  ·rename_i h10
   split
   ·exact ⟨fun _=>rfl,by simp [Tree.s],fun _=>GoodP_none true d f.sub⟩
   ·exact ⟨fun h=>by omega,by rw [hs];simp,fun _=>hp (.inl h10.1) x⟩
  ·exact cn1_goodP _ _ _ _ (hs x) fun h=>hp (.inl h) x
theorem cnQ_good (v:Int) (flex:Bool):∀ (d:Nat) (fs:List Fld) (t:Tree),okDf d fs=true→GoodP d fs (cnQ d v flex fs t)
 | 0,_,_,_=>trivial
 | d+1,fs,t,h=>by
  refine ⟨?_,(cnP_good v flex (d+1) fs t h).2⟩
  have:=goodL_of (G:=GoodP d) (n:=0) (s:=[]) (nl:=false) (u:=if flex=true then (unknownS fs t.u).map fun u=>(u.1,wholeS u.2) else []) [] (cnT_all3 (R:=GoodF (GoodP d)) (pc:=cnQ d v flex) (dp:=dfP d) (D:=d+1) (v:=v) (flex:=flex) (t:=t) fs 0 fun f hf=>by
   obtain ⟨h4,hs⟩:=okDf_f h hf
   exact ⟨fun x=>cnF_goodP f x (fun y=>cnQ_s v flex d _ y) fun hk y=>cnQ_good v flex d f.sub y (hs hk),dfF_good (fun hk=>⟨dfP_good d f.sub (hs (.inl hk)),(dfP_sn d f.sub).1⟩) h4⟩)
  exact this

/-! ### Lengths -/
def PartB (d:Nat) (v:Int) (fs:List Fld) (C:Nat):Prop:=∀ (flex:Bool) (N:Nat) (t:Tree),Sized N t→(partS d fs v flex t).length≤C * (N+1)
theorem PartB.mono {d:Nat} {v:Int} {fs:List Fld} {C C':Nat} (h:PartB d v fs C) (hc:C≤C'):PartB d v fs C':=fun flex N t hs=>Nat.le_trans (h flex N t hs) (Nat.mul_le_mul_right _ hc)
theorem partB_nil (v:Int) (d:Nat):PartB d v [] 60:=fun flex N t hs=>by
 cases d with
 | zero=>exact Nat.zero_le _
 | succ d=>exact partS_boundB v flex d [] N t (by cases d<;>rfl) hs
section
variable {d : Nat} {v:Int} {flex:Bool} {fs:List Fld} {N C:Nat} {t:Tree}
theorem tgO_len (ts:List (Nat × Nat × Fld)) (pw:List Fld→Int→Bool→Tree→List UInt8) (D:Nat) (v:Int) (t:Tree):(ts.flatMap (tgO pw D v true t)).length≤ts.length:=by
 induction ts with
 | nil=>simp
 | cons p l ih =>
  rw [List.flatMap_cons,List.length_append,List.length_cons]
  have:(tgO pw D v true t p).length≤1:=by unfold tgO;split<;>simp
  omega
theorem levelB (hb:∀ f∈fs,PartB d v f.sub C) (hs:Sized N t) (ts:List (Nat × Nat × Fld)) (hts:tagsS (partS d) (d+1) fs v true t=ts.flatMap (tgO (partS d) (d+1) v true t))
  (htf:∀ p∈ts,p.1 < 4294967296∧p.2.2∈fs∧(fieldS (partS d) p.2.2 v true (t.at p.2.1)).length < 4294967296) (hl:ts.length≤1000) :
  (partS (d+1) fs v flex t).length≤(fs.length * (2 * C+40)+ts.length * (2 * C+60)+60) * (N+1):=by
 have hu:(t.u.map fun x=>x.2.length+1).sum≤N∧∀ x∈t.u,x.1 < 4294967296:=by
  cases hs with
  | mk ns hl he hk hN=>exact ⟨by simp only [Tree.u];omega,hk⟩
 have h1:=tags_bound fs t.u hu.2
 have h2:=unknownS_len' fs t.u
 have hf:∀ f∈fs,∀ flex i,(fieldS (partS d) f v flex (t.at i)).length≤(2 * C+40) * (N+1):=fun f hf flex i =>
  fieldS_bound (C:=C) (fun M x hx=>hb f hf flex M x hx) f rfl (hs.at i)
 have hplain:∀ (l:List Fld) (i:Nat),(∀ f∈l,f∈fs)→((l.zipIdx i).flatMap (plainF (partS d) v flex t)).length≤l.length * (2 * C+40) * (N+1):=by
  intro l
  induction l with
  | nil=>intro i _;simp
  | cons f l ihl =>
   intro i hm
   have g1:=ihl (i+1) fun g hg=>hm g (by simp [hg])
   have g2:(plainF (partS d) v flex t (f,i)).length≤(2 * C+40) * (N+1):=by
    unfold plainF
    split
    ·exact hf f (hm f (by simp)) flex i
    ·simp
   rw [List.length_cons,Nat.add_mul,Nat.one_mul,Nat.add_mul]
   simp only [List.zipIdx_cons,List.flatMap_cons,List.length_append]
   omega
 have g:=hplain fs 0 fun f hf=>hf
 have htags:∀ l:List (Nat × Nat × Fld),(∀ p∈l,p∈ts)→((l.flatMap (tgO (partS d) (d+1) v true t)).flatMap oneTag).length≤l.length * (2 * C+60) * (N+1):=by
  intro l
  induction l with
  | nil=>intro _;simp
  | cons p l ihl =>
   intro hm
   have g1:=ihl fun q hq=>hm q (by simp [hq])
   obtain ⟨h3,h4,h5⟩:=htf p (hm p (by simp))
   have h6:=hf p.2.2 h4 true p.2.1
   have g2:((tgO (partS d) (d+1) v true t p).flatMap oneTag).length≤(2 * C+60) * (N+1):=by
    have h7:(2 * C+60) * (N+1)=(2 * C+40) * (N+1)+20 * (N+1):=by rw [← Nat.add_mul]
    rw [h7]
    unfold tgO
    split
    ·have a1:=uvarS_len 9 p.1 (by omega)
     have a2:=uvarS_len 9 (fieldS (partS d) p.2.2 v true (t.at p.2.1)).length (by omega)
     simp only [List.flatMap_cons,List.flatMap_nil,List.append_nil,oneTag,List.length_append]
     omega
    ·simp
   rw [List.flatMap_cons,List.flatMap_append,List.length_append,List.length_cons,Nat.add_mul,Nat.one_mul,Nat.add_mul]
   omega
 have gt:=htags ts fun p hp=>hp
 have htl:=tgO_len ts (partS d) (d+1) v t
 have h3:=uvarS_len 9 ((ts.flatMap (tgO (partS d) (d+1) v true t)).length+(unknownS fs t.u).length) (by omega)
 have e4:plainS (partS d) fs v flex t=(fs.zipIdx 0).flatMap (plainF (partS d) v flex t):=rfl
 rw [partS_eq]
 unfold partT
 rw [Nat.add_mul,Nat.add_mul,e4]
 cases flex with
 | true =>
  rw [if_pos rfl,hts]
  simp only [List.length_append]
  omega
 | false =>
  rw [if_neg (by decide)]
  omega
end

/-! ### Read again -/
theorem cnT_plain (pc:List Fld→Tree→Tree) (dp:List Fld→Tree) (D:Nat) (v:Int) (flex:Bool) (t:Tree):∀ (fs:List Fld) (i:Nat),(∀ f∈fs,f.tag < 0)→cnT pc dp D v flex t fs i=cnL pc dp v t fs i
 | [],_,_=>rfl
 | f :: fs,i,h=>by
  have hf:=h f (by simp)
  rw [cnT,cnL,cnT_plain pc dp D v flex t fs (i+1) fun g hg=>h g (by simp [hg])]
  congr 1
  have h0:¬ (0≤f.tag):=by omega
  simp [liveS,hf,h0]
def okL (v:Int) (flex:Bool) (fs:List Fld):Bool :=
 fs.all fun f=>decide ((f.kind=11∨f.kind=0∨numK f.kind∨(7≤f.kind∧f.kind≤10))∧(f.of=0∨numK f.of∨(7≤f.of∧f.of≤10))) && (decide (¬ (f.kind=10∨(f.kind=11∧f.of=10))) || wideS v flex f.sub || (!(hasS f v) && decide (f.tag < 0)))
theorem okL_f {v:Int} {flex:Bool} {fs:List Fld} (h:okL v flex fs=true) {f:Fld} (hf:f∈fs) :
  (f.kind=11∨f.kind=0∨numK f.kind∨(7≤f.kind∧f.kind≤10))∧(f.of=0∨numK f.of∨(7≤f.of∧f.of≤10))∧(hasS f v=true∨0≤f.tag→(f.kind=10∨(f.kind=11∧f.of=10))→wideS v flex f.sub=true):=by
 simp only [okL,List.all_eq_true] at h
 have:=h f hf
 rw [Bool.and_eq_true,decide_eq_true_eq] at this
 obtain ⟨⟨h1,h2⟩,h3⟩:=this
 refine ⟨h1,h2,fun h4 h5 => ?_⟩
 simp only [Bool.or_eq_true,Bool.and_eq_true,decide_eq_true_eq,Bool.not_eq_true'] at h3
 rcases h3 with (h3|h3)|h3
 ·exact absurd h5 h3
 ·exact h3
 ·rcases h4 with h4|h4
  ·rw [h3.1] at h4;cases h4
  ·omega
def PartR (d:Nat) (v:Int) (flex:Bool) (fs:List Fld):Prop:=∀ (N:Nat) (t:Tree),Sized N t→(∀ r,rdQ d v flex fs (some (partS d fs v flex t++r))=(cnQ d v flex fs t,some r))∧(wideS v flex fs=true→1≤(partS d fs v flex t).length)
section
variable {d : Nat} {v:Int} {flex:Bool} {fs:List Fld} {N C:Nat} {t:Tree}
theorem levelR (h:okL v flex fs=true) (hsub:∀ f∈fs,(f.kind=10∨(f.kind=11∧f.of=10))→PartR d v flex f.sub) (hs:Sized N t) (ts:List (Nat × Nat × Fld))
  (hts:tagsS (partS d) (d+1) fs v true t=ts.flatMap (tgO (partS d) (d+1) v true t)) (hset:setT (cnQ d v true) (d+1) v t ts (cnL (cnQ d v true) (dfP d) v t fs 0)=cnT (cnQ d v true) (dfP d) (d+1) v true t fs 0)
  (htf:∀ p∈ts,tagX fs p.1=some p.2∧p.1 < 4294967296∧p.2.2∈fs∧0≤p.2.2.tag∧(fieldS (partS d) p.2.2 v true (t.at p.2.1)).length < 4294967296) (hl:ts.length≤1000) :
  (∀ r,rdQ (d+1) v flex fs (some (partS (d+1) fs v flex t++r))=(cnQ (d+1) v flex fs t,some r))∧(wideS v flex fs=true→1≤(partS (d+1) fs v flex t).length):=by
 have hu:∀ x∈t.u,x.1 < 4294967296:=by
  cases hs with
  | mk ns hl he hk hN=>exact hk
 have sub:∀ (f:Fld) (i:Nat) (x:Tree),(f.kind=10∧x=t.at i)∨(f.kind=11∧f.of=10∧x∈(t.at i).l)→∃ M,Sized M x:=by
  intro f i x hx
  have ha:=hs.at i
  rcases hx with ⟨_,rfl⟩|⟨_,_,hx⟩
  ·exact ⟨_,ha⟩
  ·obtain ⟨k,hk,rfl⟩:=List.getElem_of_mem hx
   exact ha.el hk
 have hF:∀ f∈fs,(hasS f v=true∨0≤f.tag)→∀ (i:Nat) (r:List UInt8),rdF (rdQ d v flex) v flex f (some (fieldS (partS d) f v flex (t.at i)++r))=(cnF (cnQ d v flex) v f (t.at i),some r):=by
  intro f hf hh i r
  obtain ⟨g2,g3,g6⟩:=okL_f h hf
  refine rdF_field f (t.at i) r g2 g3 (fun x hx r => ?_) (fun h11 h10 x hx => ?_)
  ·obtain ⟨M,hM⟩:=sub f i x hx
   exact (hsub f hf (hx.imp (fun h=>h.1) fun h=>⟨h.1,h.2.1⟩) M x hM).1 r
  ·obtain ⟨M,hM⟩:=sub f i x (.inr ⟨h11,h10,hx⟩)
   exact (hsub f hf (.inr ⟨h11,h10⟩) M x hM).2 (g6 hh (.inr ⟨h11,h10⟩))
 have hp:=fun r=>rdL_plain (pr:=rdQ d v flex) (pw:=partS d) (pc:=cnQ d v flex) (flex:=flex) (dfP d) t fs 0 r fun f hf hh i r=>hF f hf (.inl hh) i r
 constructor
 ·intro r
  rw [partS_eq]
  unfold partT
  rw [plainS_L]
  cases flex with
  | false =>
   rw [if_neg (by decide),rdQ,if_neg (by decide),hp r,cnQ]
   rw [cnT_f,if_neg (by decide)]
  | true =>
   rw [if_pos rfl,hts,cnQ,if_pos rfl]
   simp only [List.append_assoc]
   have hun:=unknownS_spec fs t.u
   have hul:=unknownS_len' fs t.u
   have htl:=tgO_len ts (partS d) (d+1) v t
   refine rdQ_t (hp _) ?_
   unfold rdTgs
   rw [rdUv_uvar _ _ (by omega)]
   simp only
   rw [rdTg_tags (pr:=rdQ d v true) (pc:=cnQ d v true) ts _ _ _ _ fun p hp => ?_]
   ·rw [hset]
    have:=rdTg_unks (pt:=rdQ d v true) (v:=v) (flex:=true) (fs:=fs) (xs:=cnT (cnQ d v true) (dfP d) (d+1) v true t fs 0) (unknownS fs t.u) [] r (fun x hx=>tagX_none (tag_known (hun.2 x hx).2)) (fun x hx=>hu x (hun.2 x hx).1) (fun _ _ _ h=>by cases h) (hun.1.imp fun h=>by omega)
    rw [List.nil_append] at this
    exact this
   ·obtain ⟨h1,h2,h3,h4,h5⟩:=htf p hp
    have h6:=hF p.2.2 h3 (.inr h4) p.2.1 []
    rw [List.append_nil] at h6
    exact ⟨h1,h2,h5,h6⟩
 ·intro hw
  rw [partS_eq]
  unfold partT
  cases flex with
  | true =>
   rw [if_pos rfl,List.length_append,List.length_append]
   have:=uvarS_pos ((tagsS (partS d) (d+1) fs v true t).length+(unknownS fs t.u).length)
   omega
  | false =>
   rw [if_neg (by decide),plainS_L]
   simp only [wideS,Bool.false_or,List.any_eq_true,Bool.and_eq_true,decide_eq_true_eq] at hw
   obtain ⟨f,hf,h1,h2⟩:=hw
   have hpos:∀ i,1≤(fieldS (partS d) f v false (t.at i)).length:=fun i=>by
    obtain ⟨g2,g3,g6⟩:=okL_f h hf
    refine fieldS_pos f (t.at i) g2 fun h10 => ?_
    obtain ⟨M,hM⟩:=sub f i (t.at i) (.inl ⟨h10,rfl⟩)
    exact (hsub f hf (.inl h10) M (t.at i) hM).2 (g6 (.inl h2) (.inl h10))
   have:∀ (l:List Fld) (i:Nat),f∈l→1≤(plainL (partS d) v false t l i).length:=by
    intro l
    induction l with
    | nil=>intro _ h;cases h
    | cons g l ih =>
     intro i hm
     rw [plainL,List.length_append]
     rcases List.mem_cons.1 hm with rfl|hm
     ·rw [if_pos ⟨h1,h2⟩]
      have:=hpos i
      omega
     ·have:=ih (i+1) hm
      omega
   exact this fs 0 hf
end
theorem tags_no {fs:List Fld} (h:knownS fs=0) (pt:List Fld→Int→Bool→Tree→List UInt8) (D:Nat) (v:Int) (t:Tree):tagsS pt D fs v true t=([]:List (Nat × Nat × Fld)).flatMap (tgO pt D v true t):=by
 unfold tagsS
 rw [h]
 rfl
theorem levelR0 {d:Nat} {v:Int} {flex:Bool} {fs:List Fld} (hk:fs.all (fun f=>decide (f.tag < 0))=true) (h:okL v flex fs=true) (hsub:∀ f∈fs,(f.kind=10∨(f.kind=11∧f.of=10))→PartR d v flex f.sub):PartR (d+1) v flex fs:=fun N t hs=>by
 have ht:∀ f∈fs,f.tag < 0:=by simpa using hk
 exact levelR h hsub hs [] (tags_no (knownS_none ht) _ _ _ _) (by rw [cnT_plain _ _ _ _ _ _ _ _ ht];rfl) (fun _ h=>by cases h) (by decide)
theorem levelB0 {d:Nat} {v:Int} {fs:List Fld} {C C':Nat} (hk:fs.all (fun f=>decide (f.tag < 0))=true) (hb:∀ f∈fs,PartB d v f.sub C) (hC:fs.length * (2 * C+40)+60≤C'):PartB (d+1) v fs C':=fun flex N t hs=>by
 have ht:∀ f∈fs,f.tag < 0:=by simpa using hk
 exact Nat.le_trans (levelB hb hs [] (tags_no (knownS_none ht) _ _ _ _) (fun _ h=>by cases h) (by decide)) (Nat.mul_le_mul_right _ (by simpa using hC))
theorem fieldS_uuid_len (pt:List Fld→Int→Bool→Tree→List UInt8) (f:Fld) (v:Int) (flex:Bool) (x:Tree) (h:f.kind=7):(fieldS pt f v flex x).length≤16:=by
 unfold fieldS valueS
 rw [if_neg (by omega),if_neg (by omega),if_neg (by omega),if_pos h]
 simp only [List.length_append,List.length_take,List.length_replicate]
 omega
theorem fieldS_num_len (pt:List Fld→Int→Bool→Tree→List UInt8) (f:Fld) (v:Int) (flex:Bool) (x:Tree) (h:numK f.kind):(fieldS pt f v flex x).length≤8:=by
 unfold numK at h
 unfold fieldS valueS
 rw [if_neg (by omega),if_neg (by omega),if_neg (by omega),if_neg (by omega),if_neg (by omega),if_neg (by omega),if_neg (by omega),fixedS_len]
 rcases h with h|h|h|h|h|h<;>rw [h]<;>decide
end Ms

