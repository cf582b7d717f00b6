/- A part of the proof: see the last text. -/
import Derived.Test.YtpaofegplnfiiaaDoorC02
import Derived.Test.YtpaofegplnfiiaaDoorC03
import Derived.Test.YtpaofegplnfiiaaDoorC05
import Derived.Test.YtpaofegplnfiiaaDoorC06
import Derived.Test.YtpaofegplnfiiaaDoorC08
import Derived.Test.YtpaofegplnfiiaaDoorC09
set_option linter.unusedSimpArgs false
set_option linter.unusedVariables false
namespace Ms
open Go.World renaming size_alloc → qI
open Ms renaming size_wr → qJ,size_drew → qK,not_noB → qL
open W renaming seqR → qA,seq → qB,regR → qC,condK → qD,block → qE,skip → qF,ret → qG,exit → qH
open Nat renaming reduceEqDiff → n0,reduceAdd → n1,reduceMul → n2,reduceSub → n3,reduceLT → n4,reduceLeDiff → n5
open Int renaming reduceEq → i0,reduceLT → i1,reduceLE → i2,reduceNeg → i3,reduceAdd → i4,reduceSub → i5,reduceMul → i6,reduceToNat → i7
set_option maxRecDepth 4000
open Go Go.Proofs Go.Shelf
attribute [local congr] W_congr WPsq_congr WPp_congr optK_congr addrK_congr intK_congr boolK_congr sliceK_congr tupleK_congr funcK_congr Fn_congr rawK_congr takeK_congr stepK_congr convK_congr aggK_congr

set_option maxHeartbeats 1000000 in
theorem EachG_fn {ok:Blocks} (F:Nat) (hF:callable Tryd.prog F=true) (lb:Array Value) {tb to:Nat} {x:Blk} {m:Value} {u u0:List TagD} (w:World)
  (hb:blk w tb=some x) (hm:x.1[to]? = some m) (ht:TagsM ok w m u0) (hpm:u.Perm u0) (hs:(u.map (·.1)).Pairwise (· < ·)) (hlen:u.length≤32767)
  (S:Nat→Prop) (hS1:¬ S tb) (hS2:∀ b,b < w.heap.size→ok b→¬ S b) (hS3:∀ b,S b→b < w.heap.size)
  (I:World→List TagD→World→Prop) (h0:∀ wl,Ext w wl→I wl [] wl)
  (hstep:∀ wl,Ext w wl→∀ done y vv w1,(done++[y]) <+: u→I wl done w1→Upd S wl w1→BytesV ok w vv y.2→y.1 < 2 ^ 32→Fn Tryd.prog F (#[.int .u32 y.1,vv]++lb) w1 fun _ w2=>I wl (done++[y]) w2∧Upd S wl w2) :
  Fn Tryd.prog 25 #[.pointer (some ⟨tb,to,none⟩),.func (.func F) #[] lb] w fun _ w'=>∃ wl,Ext w wl∧I wl u w'∧Upd S wl w':=by
 have hbl:=blk_lt hb
 refine fn_of_W Tryd.func25 rfl Tryd.results25 Tryd.ntmps25 rfl ?_
 have hul:=hpm.length_eq
 rcases ht with ⟨rfl,rfl⟩|⟨r,es,clock,rfl,hok,hr,hsz,he,hinj⟩
 ·obtain rfl:u=[]:=hpm.eq_nil
  repeat ((first|refine qA rfl ?_|apply qB|refine qC rfl ?_|apply qD|apply qE|apply qF|apply qG|apply qH);try simp (disch:=(first|omega|(simp only [qI,qJ,qK]<;>omega)|exact qL _)) only [go_sem,↓reduceIte,n0,reduceCtorEq,n1,n2,n3,n4,n5,i0,i1,i2,i3,i4,i5,i6,i7,hb,hm])
  refine wp_len_nil tagsT rfl ?_
  simp (disch:=(first|omega|(simp only [qI,qJ,qK]<;>omega)|exact qL _)) only [go_sem,↓reduceIte,n0,reduceCtorEq,n1,n2,n3,n4,n5,i0,i1,i2,i3,i4,i5,i6,i7]
  repeat ((first|refine qA rfl ?_|apply qB|refine qC rfl ?_|apply qD|apply qE|apply qF|apply qG|apply qH);try simp (disch:=(first|omega|(simp only [qI,qJ,qK]<;>omega)|exact qL _)) only [go_sem,↓reduceIte,n0,reduceCtorEq,n1,n2,n3,n4,n5,i0,i1,i2,i3,i4,i5,i6,i7])
  exact ⟨w,Upd.refl _ _,h0 w (Upd.refl _ _),Upd.refl _ _⟩
 have hrl:=heap_lt hr
 repeat ((first|refine qA rfl ?_|apply qB|refine qC rfl ?_|apply qD|apply qE|apply qF|apply qG|apply qH);try simp (disch:=(first|omega|(simp only [qI,qJ,qK]<;>omega)|exact qL _)) only [go_sem,↓reduceIte,n0,reduceCtorEq,n1,n2,n3,n4,n5,i0,i1,i2,i3,i4,i5,i6,i7,hb,hm])
 refine wp_len_map tagsT rfl hr ?_
 by_cases hz:u.length=0
 ·have hz1:(es.size:Int)=0:=by omega
  obtain rfl:u=[]:=List.eq_nil_of_length_eq_zero hz
  simp (disch:=(first|omega|(simp only [qI,qJ,qK]<;>omega)|exact qL _)) only [go_sem,↓reduceIte,n0,reduceCtorEq,n1,n2,n3,n4,n5,i0,i1,i2,i3,i4,i5,i6,i7,hz1]
  repeat ((first|refine qA rfl ?_|apply qB|refine qC rfl ?_|apply qD|apply qE|apply qF|apply qG|apply qH);try simp (disch:=(first|omega|(simp only [qI,qJ,qK]<;>omega)|exact qL _)) only [go_sem,↓reduceIte,n0,reduceCtorEq,n1,n2,n3,n4,n5,i0,i1,i2,i3,i4,i5,i6,i7])
  exact ⟨w,Upd.refl _ _,h0 w (Upd.refl _ _),Upd.refl _ _⟩
 have hz1:¬ (es.size:Int)=0:=by omega
 simp (disch:=(first|omega|(simp only [qI,qJ,qK]<;>omega)|exact qL _)) only [go_sem,↓reduceIte,n0,reduceCtorEq,n1,n2,n3,n4,n5,i0,i1,i2,i3,i4,i5,i6,i7,hz1]
 repeat ((first|refine qA rfl ?_|apply qB|refine qC rfl ?_|apply qD|apply qE|apply qF|apply qG|apply qH);try simp (disch:=(first|omega|(simp only [qI,qJ,qK]<;>omega)|exact qL _)) only [go_sem,↓reduceIte,n0,reduceCtorEq,n1,n2,n3,n4,n5,i0,i1,i2,i3,i4,i5,i6,i7,hb,hm])
 refine wp_len_map tagsT rfl hr ?_
 simp (disch:=(first|omega|(simp only [qI,qJ,qK]<;>omega)|exact qL _)) only [go_sem,↓reduceIte,n0,reduceCtorEq,n1,n2,n3,n4,n5,i0,i1,i2,i3,i4,i5,i6,i7]
 refine wp_make (T:=96) (E:=59) (size:=1) (bytes:=4) (z:=.int .u32 0) (l:=0) (c:=es.size) (kl:=.i64) (kc:=.i64) (by kernel_rfl) (by kernel_rfl) (by simp (disch:=(first|omega|(simp only [qI,qJ,qK]<;>omega)|exact qL _)) only [go_sem,↓reduceIte,n0,reduceCtorEq,n1,n2,n3,n4,n5,i0,i1,i2,i3,i4,i5,i6,i7];rfl) (by simp (disch:=(first|omega|(simp only [qI,qJ,qK]<;>omega)|exact qL _)) only [go_sem,↓reduceIte,n0,reduceCtorEq,n1,n2,n3,n4,n5,i0,i1,i2,i3,i4,i5,i6,i7]) (by omega) (by omega) (by omega) ?_
 simp (disch:=(first|omega|(simp only [qI,qJ,qK]<;>omega)|exact qL _)) only [go_sem,↓reduceIte,n0,reduceCtorEq,n1,n2,n3,n4,n5,i0,i1,i2,i3,i4,i5,i6,i7]
 have hsl:es.size≤32767:=by omega
 generalize hw2:(wr ((w.alloc (.cells (madeCells #[.int .u32 0] (es.size * 1)) 59)).alloc (.cells #[.slice none 0 0] 96)) (w.heap.size+1) 0 [.slice (some ⟨w.heap.size,0,none⟩) 0 es.size])=w2
 have hE2:Ext w w2:=by rw [← hw2];exact (Upd.alloc (Upd.alloc (Upd.refl _ _) _) _).wr _ _ (.inl (by omega))
 have hz2:w2.heap.size=w.heap.size+2:=by rw [← hw2];simp only [size_wr,World.size_alloc]
 have hrow2:blk w2 w.heap.size=some ((List.replicate es.size (.int .u32 0)).toArray,59,(0,0)):=by rw [← hw2];simp (disch:=(first|omega|(simp only [qI,qJ,qK]<;>omega)|exact qL _)) only [go_sem,↓reduceIte,n0,reduceCtorEq,n1,n2,n3,n4,n5,i0,i1,i2,i3,i4,i5,i6,i7,made_one,Nat.mul_one]
 have hown2:Own w.heap.size w2 59 1 (.slice (some ⟨w.heap.size,0,none⟩) 0 es.size) 0 []:=⟨rfl,.inr ⟨w.heap.size,es.size,List.replicate es.size (.int .u32 0),(0,0),rfl,Nat.le_refl _,hrow2,by simp,thaw_00 _ _,Nat.zero_le _⟩⟩
 have hbx2:blk w2 (w.heap.size+1)=some (#[.slice (some ⟨w.heap.size,0,none⟩) 0 es.size],96,(0,0)):=by rw [← hw2];simp (disch:=(first|omega|(simp only [qI,qJ,qK]<;>omega)|exact qL _)) only [go_sem,↓reduceIte,n0,reduceCtorEq,n1,n2,n3,n4,n5,i0,i1,i2,i3,i4,i5,i6,i7]
 have hb2:blk w2 tb=some x:=hE2.blk_some hb id
 have hr2:w2.heap[r]? = some (.map es clock):=by rw [hE2.keep r hrl id];exact hr
 clear hw2 hrow2
 repeat ((first|refine qA rfl ?_|apply qB|refine qC rfl ?_|apply qD|apply qE|apply qF|apply qG|apply qH);try simp (disch:=(first|omega|(simp only [qI,qJ,qK]<;>omega)|exact qL _)) only [go_sem,↓reduceIte,n0,reduceCtorEq,n1,n2,n3,n4,n5,i0,i1,i2,i3,i4,i5,i6,i7,hb2,hm])
 refine wp_range tagsT rfl hr2 ?_
 simp (disch:=(first|omega|(simp only [qI,qJ,qK]<;>omega)|exact qL _)) only [go_sem,↓reduceIte,n0,reduceCtorEq,n1,n2,n3,n4,n5,i0,i1,i2,i3,i4,i5,i6,i7]
 generalize hw3:w2.alloc (.mapIter (some r) clock #[] clock)=w3
 have hE3:Ext w w3:=by rw [← hw3];exact hE2.alloc _
 have hz3:w3.heap.size=w2.heap.size+1:=by rw [← hw3,World.size_alloc]
 have hit3:w3.heap[w2.heap.size]? = some (.mapIter (some r) clock #[] clock):=by
  rw [← hw3];show (w2.heap.push _)[w2.heap.size]? = _;simp
 have hown3:Own w.heap.size w3 59 1 (.slice (some ⟨w.heap.size,0,none⟩) 0 es.size) 0 []:=by rw [← hw3];exact hown2.alloc _
 have hbx3:blk w3 (w.heap.size+1)=some (#[.slice (some ⟨w.heap.size,0,none⟩) 0 es.size],96,(0,0)):=by rw [← hw3,blk_alloc_old (by omega)];exact hbx2
 clear hw3 hown2 hbx2 hb2 hr2
 have hold:=tm_old hsz he
 have hnod:=tm_nodup hinj
 have hKU:=tm_keysU hsz he
 have hkeys:=tm_keys hsz he
 repeat ((first|refine qA rfl ?_|apply qB|refine qC rfl ?_|apply qD|apply qE|apply qF|apply qG|apply qH);try simp (disch:=(first|omega|(simp only [qI,qJ,qK]<;>omega)|exact qL _)) only [go_sem,↓reduceIte,n0,reduceCtorEq,n1,n2,n3,n4,n5,i0,i1,i2,i3,i4,i5,i6,i7])
 refine W.exitJ 0 (fun ρ w'=>∃ seen xs l rest v,Ranged es seen xs l rest∧(leftOf es seen).size=0∧blk w' (w.heap.size+1)=some (#[v],96,(0,0))∧Own w.heap.size w' 59 1 v xs.length (xs.map u32V)∧Ext w w' ∧
   ρ 0 = .pointer (some ⟨tb,to,none⟩)∧ρ 1 = .func (.func F) #[] lb∧ρ 4 = .pointer (some ⟨w.heap.size+1,0,none⟩))
  (W.loop (fun ρ w'=>∃ seen xs l rest v,Ranged es seen xs l rest∧w'.heap[w2.heap.size]? = some (.mapIter (some r) clock seen clock)∧blk w' (w.heap.size+1)=some (#[v],96,(0,0))∧Own w.heap.size w' 59 1 v xs.length (xs.map u32V)∧Ext w w' ∧
   ρ 0 = .pointer (some ⟨tb,to,none⟩)∧ρ 1 = .func (.func F) #[] lb∧ρ 4 = .pointer (some ⟨w.heap.size+1,0,none⟩)∧ρ 24 = .pointer (some ⟨w2.heap.size,0,none⟩))
   (fun _ w'=>es.size - lenBox (blk w' (w.heap.size+1))) ?_ ?_) ?_
 ·refine ⟨#[],[],[],es.toList,_,Ranged.start es,hit3,hbx3,hown3,hE3,?_,?_,?_,?_⟩<;>simp (disch:=(first|omega|(simp only [qI,qJ,qK]<;>omega)|exact qL _)) only [go_sem,↓reduceIte,n0,reduceCtorEq,n1,n2,n3,n4,n5,i0,i1,i2,i3,i4,i5,i6,i7]
 ·rintro ρ w4 ⟨seen,xs,l,rest,v,hR,hit,hbx,hown,hE4,h0',h1',h4,h24⟩
  have hr4:w4.heap[r]? = some (.map es clock):=by rw [hE4.keep r hrl id];exact hr
  have hz4:=hE4.size
  have hitl:=heap_lt hit
  obtain ⟨va,vc,rfl,hvc⟩:=hown.shape
  have hlb:lenBox (blk w4 (w.heap.size+1))=xs.length:=by rw [hbx];rfl
  repeat ((first|refine qA rfl ?_|apply qB|refine qC rfl ?_|apply qD|apply qE|apply qF|apply qG|apply qH);try simp (disch:=(first|omega|(simp only [qI,qJ,qK]<;>omega)|exact qL _)) only [go_sem,↓reduceIte,n0,reduceCtorEq,n1,n2,n3,n4,n5,i0,i1,i2,i3,i4,i5,i6,i7])
  refine wp_next (r:=w2.heap.size) (by simp (disch:=(first|omega|(simp only [qI,qJ,qK]<;>omega)|exact qL _)) only [go_sem,↓reduceIte,n0,reduceCtorEq,n1,n2,n3,n4,n5,i0,i1,i2,i3,i4,i5,i6,i7,h24]) hit hr4 hold (Nat.le_refl _) ?_ ?_
  ·intro hl0
   simp (disch:=(first|omega|(simp only [qI,qJ,qK]<;>omega)|exact qL _)) only [go_sem,↓reduceIte,n0,reduceCtorEq,n1,n2,n3,n4,n5,i0,i1,i2,i3,i4,i5,i6,i7]
   repeat ((first|refine qA rfl ?_|apply qB|refine qC rfl ?_|apply qD|apply qE|apply qF|apply qG|apply qH);try simp (disch:=(first|omega|(simp only [qI,qJ,qK]<;>omega)|exact qL _)) only [go_sem,↓reduceIte,n0,reduceCtorEq,n1,n2,n3,n4,n5,i0,i1,i2,i3,i4,i5,i6,i7])
   exact ⟨seen,xs,l,rest,_,hR,hl0,hbx,hown,hE4,h0',h1',h4⟩
  ·intro e hel w5 hw5
   obtain ⟨rest',hR',hlt⟩:=hR.step hel
   obtain ⟨hee,_⟩:=mem_leftOf hel
   obtain ⟨kn,hkn⟩:=hKU e hee
   have hknn:e.key=u32V (keyN e):=by
    obtain ⟨i,hi,rfl⟩:=List.getElem_of_mem hee
    simp only [Array.length_toList] at hi
    have:=(he i (by omega) hi).1.key
    simp only [Array.getElem_toList,keyN,this]
    simp [u32V]
   have hE45:Ext w4 w5:=by rcases hw5 with rfl|rfl;exact Upd.refl _ _;exact (Upd.refl _ _).drew
   have hh45:w5.heap=w4.heap:=by rcases hw5 with rfl|rfl<;>rfl
   generalize hw6:Go.ChangeMaps.setBlock w5 w2.heap.size (.mapIter (some r) clock (seen.push e.born) clock)=w6
   have hE6:Ext w w6:=by rw [← hw6];exact (hE4.trans hE45).setBlock _ _ (.inl (by omega))
   have hU6:Upd (fun b=>b=w2.heap.size) w5 w6:=by rw [← hw6];exact (Upd.refl _ _).setBlock _ _ (.inr rfl)
   have hz6:w6.heap.size=w4.heap.size:=by rw [← hw6,setBlock_size,hh45]
   have hit6:w6.heap[w2.heap.size]? = some (.mapIter (some r) clock (seen.push e.born) clock):=by rw [← hw6,setBlock_same _ _ _ (by rw [hh45];exact hitl)]
   have hr6:w6.heap[r]? = some (.map es clock):=by rw [hE6.keep r hrl id];exact hr
   have hbx5:blk w5 (w.heap.size+1)=some (#[.slice va xs.length vc],96,(0,0)):=by rw [blk_of_heap (w:=w4) (w':=w5) (by rw [hh45])];exact hbx
   have hbx6:blk w6 (w.heap.size+1)=some (#[.slice va xs.length vc],96,(0,0)):=hU6.blk_some hbx5 (by omega)
   have hne:¬ ownB (.slice va xs.length vc) w2.heap.size:=own_ne hown fun y hy=>by
    unfold blk at hy;rw [hit] at hy;cases hy
   have hown6:Own w.heap.size w6 59 1 (.slice va xs.length vc) xs.length (xs.map u32V):=Own.upd (Own.upd hown hE45 fun _ _ h=>h) hU6 fun b hb e=>hne (e ▸ hb)
   clear hw6
   have hkv:e.key = .int .u32 (keyN e:Nat):=hknn
   clear hknn hkn
   generalize keyN e=kk at *
   simp (disch:=(first|omega|(simp only [qI,qJ,qK]<;>omega)|exact qL _)) only [go_sem,↓reduceIte,n0,reduceCtorEq,n1,n2,n3,n4,n5,i0,i1,i2,i3,i4,i5,i6,i7]
   repeat ((first|refine qA rfl ?_|apply qB|refine qC rfl ?_|apply qD|apply qE|apply qF|apply qG|apply qH);try simp (disch:=(first|omega|(simp only [qI,qJ,qK]<;>omega)|exact qL _)) only [go_sem,↓reduceIte,n0,reduceCtorEq,n1,n2,n3,n4,n5,i0,i1,i2,i3,i4,i5,i6,i7])
   refine wp_entry (e:=e) (by simp (disch:=(first|omega|(simp only [qI,qJ,qK]<;>omega)|exact qL _)) only [go_sem,↓reduceIte,n0,reduceCtorEq,n1,n2,n3,n4,n5,i0,i1,i2,i3,i4,i5,i6,i7,h24]) hit6 hr6 hee hnod ?_
   simp (disch:=(first|omega|(simp only [qI,qJ,qK]<;>omega)|exact qL _)) only [go_sem,↓reduceIte,n0,reduceCtorEq,n1,n2,n3,n4,n5,i0,i1,i2,i3,i4,i5,i6,i7,hkv]
   repeat ((first|refine qA rfl ?_|apply qB|refine qC rfl ?_|apply qD|apply qE|apply qF|apply qG|apply qH);try simp (disch:=(first|omega|(simp only [qI,qJ,qK]<;>omega)|exact qL _)) only [go_sem,↓reduceIte,n0,reduceCtorEq,n1,n2,n3,n4,n5,i0,i1,i2,i3,i4,i5,i6,i7,hbx6,h4,hkv])
   refine wp_append ap_96_96 (m:=1) (news:=[.int .u32 kk]) (n:=xs.length) (cs:=xs.map u32V) (v:=.slice va xs.length vc) ?_ rfl (hown6.alloc (.cells #[.int .u32 kk] 59)) ?_ (Src.blk (fr:=(0,0)) (T:=59) (blk_alloc_new rfl) rfl rfl) ?_ ?_ ?_
   ·simp (disch:=(first|omega|(simp only [qI,qJ,qK]<;>omega)|exact qL _)) only [go_sem,↓reduceIte,n0,reduceCtorEq,n1,n2,n3,n4,n5,i0,i1,i2,i3,i4,i5,i6,i7]
   ·simp only [List.all_map,List.all_eq_true];intro _ _;rfl
   ·simp only [World.size_alloc];omega
   ·have:=hR.len;omega
   intro v' w7 ho7 hu7 hfr7
   obtain ⟨a7,c7,rfl,hc7⟩:=ho7.shape
   have hne6:¬ ownB (.slice va xs.length vc) (w.heap.size+1):=own_ne hown6 fun y hy=>by rw [hbx6] at hy;cases hy;exact (by decide:(96:Nat)≠59)
   have hit6':¬ ownB (.slice va xs.length vc) w2.heap.size:=hne
   have hE7:Ext w w7:=Upd.more (hE6.alloc (.cells #[.int .u32 kk] 59)) hu7 fun b hb ho=>by have:=hown6.above ho;omega
   have hbx7:blk w7 (w.heap.size+1)=some (#[.slice va xs.length vc],96,(0,0)):=hu7.blk_some (by rw [blk_alloc_old (by omega)];exact hbx6) hne6
   have hit7:w7.heap[w2.heap.size]? = some (.mapIter (some r) clock (seen.push e.born) clock):=by
    rw [hu7.keep _ (by simp only [World.size_alloc];omega) hit6',RowKit.Below.heap_alloc _ _ _ (by omega)];exact hit6
   simp (disch:=(first|omega|(simp only [qI,qJ,qK]<;>omega)|exact qL _)) only [go_sem,↓reduceIte,n0,reduceCtorEq,n1,n2,n3,n4,n5,i0,i1,i2,i3,i4,i5,i6,i7,hbx7,h4]
   generalize hw8:wr w7 (w.heap.size+1) 0 [.slice a7 (xs.length+1) c7] = w8
   have hU8:Upd (fun b=>b=w.heap.size+1) w7 w8:=by rw [← hw8];exact (Upd.refl _ _).wr _ _ (.inr rfl)
   have hE8:Ext w w8:=by rw [← hw8];exact hE7.wr _ _ (.inl (by omega))
   have hbx8:blk w8 (w.heap.size+1)=some (#[.slice a7 (xs.length+1) c7],96,(0,0)):=by rw [← hw8,blk_wr_eq,hbx7];rfl
   have hne7:¬ ownB (.slice a7 (xs.length+1) c7) (w.heap.size+1):=own_ne ho7 fun y hy=>by rw [hbx7] at hy;cases hy;exact (by decide:(96:Nat)≠59)
   have hown8:Own w.heap.size w8 59 1 (.slice a7 (xs.length+1) c7) (xs++[kk]).length ((xs++[kk]).map u32V):=by
    have:=ho7.upd hU8 (fun b hb e=>hne7 (e ▸ hb))
    simpa [u32V] using this
   have hit8:w8.heap[w2.heap.size]? = some (.mapIter (some r) clock (seen.push e.born) clock):=by rw [hU8.keep _ (heap_lt hit7) (by omega)];exact hit7
   have hlb8:lenBox (blk w8 (w.heap.size+1))=xs.length+1:=by rw [hbx8];rfl
   clear hw8
   simp (disch:=(first|omega|(simp only [qI,qJ,qK]<;>omega)|exact qL _)) only [go_sem,↓reduceIte,n0,reduceCtorEq,n1,n2,n3,n4,n5,i0,i1,i2,i3,i4,i5,i6,i7,h0',h1',h4,h24]
   refine ⟨⟨_,_,_,_,_,hR',hit8,rfl,hown8,hE8⟩,?_⟩
   rw [hlb];show es.size - (xs.length+1) < _;omega
 ·rintro ρ w4 ⟨seen,xs,l,rest,v,hR,hl0,hbx,hown,hE4,h0',h1',h4⟩
  have hperm:=hR.done hl0 hnod
  rw [hkeys] at hperm
  have hxl:xs.length=u.length:=by rw [hperm.length_eq,List.length_map,hul]
  rcases hown.2 with ⟨_,h⟩|⟨g,cap,rest2,fr,rfl,hg,hgb,hgl,hth,hcap⟩
  ·omega
  have hne:w.heap.size+1≠g:=fun e=>by
   rw [e] at hbx;rw [hbx] at hgb;simp at hgb
  have hgl4:=blk_lt hgb
  repeat ((first|refine qA rfl ?_|apply qB|refine qC rfl ?_|apply qD|apply qE|apply qF|apply qG|apply qH);try simp (disch:=(first|omega|(simp only [qI,qJ,qK]<;>omega)|exact qL _)) only [go_sem,↓reduceIte,n0,reduceCtorEq,n1,n2,n3,n4,n5,i0,i1,i2,i3,i4,i5,i6,i7,hbx,h4])
  refine (sort_fn (row:=g) (c:=cap) (b4:=w.heap.size+1) (N:=cap * 1) xs.toArray w4 hgb hth (by simp;omega) hbx rfl hne (u.map (·.1)) (by simpa using hperm.trans (hpm.symm.map (·.1))) hs (by simp;omega)).mono ?_
  rintro r5 w5 ⟨hU5,hg5⟩
  have hE5:Ext w w5:=Upd.more hE4 hU5 fun b hb e=>by omega
  have hbx5:blk w5 (w.heap.size+1)=some (#[.slice (some ⟨g,0,none⟩) xs.length cap],96,(0,0)):=hU5.blk_some hbx hne
  repeat ((first|refine qA rfl ?_|apply qB|refine qC rfl ?_|apply qD|apply qE|apply qF|apply qG|apply qH);try simp (disch:=(first|omega|(simp only [qI,qJ,qK]<;>omega)|exact qL _)) only [go_sem,↓reduceIte,n0,reduceCtorEq,n1,n2,n3,n4,n5,i0,i1,i2,i3,i4,i5,i6,i7,hbx5,h4])
  refine W.exitJ 2 (fun ρ w'=>I w5 u w'∧Upd S w5 w')
   (W.loop (fun ρ w'=>∃ j:Nat,j≤u.length∧ρ 39 = .int .i64 j∧ρ 38 = .int .i64 xs.length∧ρ 37 = .slice (some ⟨g,0,none⟩) xs.length cap∧ρ 0 = .pointer (some ⟨tb,to,none⟩)∧ρ 1 = .func (.func F) #[] lb∧I w5 (u.take j) w'∧Upd S w5 w')
    (fun ρ _=>u.length - (RowKit.intOf (ρ 39)).toNat) ?_ ?_) ?_
  ·refine ⟨0,Nat.zero_le _,?_,?_,?_,?_,?_,h0 w5 hE5,Upd.refl _ _⟩<;>simp (disch:=(first|omega|(simp only [qI,qJ,qK]<;>omega)|exact qL _)) only [go_sem,↓reduceIte,n0,reduceCtorEq,n1,n2,n3,n4,n5,i0,i1,i2,i3,i4,i5,i6,i7,h0',h1',h4]
   rfl
  ·rintro ρ w6 ⟨j,hj,h39,h38,h37,h0',h1',hI,hU⟩
   by_cases hlt:j < u.length
   ·have hnS:∀ b,w.heap.size≤b→¬ S b:=fun b hb h=>by have:=hS3 b h;omega
    have hg6:blk w6 g=some (((u.map (·.1)).map u32V++rest2).toArray,59,fr):=hU.blk_some hg5 (hnS g hg)
    have hb6:blk w6 tb=some x:=hU.blk_some (hE5.blk_some hb id) hS1
    have hr6:w6.heap[r]? = some (.map es clock):=by
     rw [hU.keep r (Nat.lt_of_lt_of_le hrl hE5.size) (hS2 r hrl hok),hE5.keep r hrl id];exact hr
    have hlt':(j:Int) < (xs.length:Int):=by omega
    have hlt2:j < xs.length:=by omega
    have hx:(((u.map (·.1)).map u32V++rest2).toArray)[j]? = some (.int .u32 (u[j].1:Nat)):=by
     rw [List.getElem?_toArray,List.getElem?_append_left (by simp;omega)]
     simp [hlt,u32V]
    obtain ⟨i,hi,hie⟩:=List.getElem_of_mem (hpm.mem_iff.1 (List.getElem_mem hlt))
    obtain ⟨hte,_⟩:=he i hi (by omega)
    rw [hie] at hte
    have hpre:u.take j++[u[j]] <+: u:=by
     rw [← List.take_succ_eq_append_getElem hlt];exact List.take_prefix _ _
    have hst:=hstep w5 hE5 (u.take j) u[j] es[i].val w6 hpre hI hU hte.val hte.num
    have hsucc:u.take (j+1)=u.take j++[u[j]]:=List.take_succ_eq_append_getElem hlt
    have hnd0:(u0.map (·.1)).Nodup:=(hpm.map (·.1)).nodup_iff.1 (List.nodup_iff_pairwise_ne.2 (hs.imp fun h=>Nat.ne_of_lt h))
    have hk3:∀ k (hk:k < es.size),k < i→es[k].key≠.int .u32 (u[j].1:Nat):=by
     intro k hk hkj h
     rw [(he k (by omega) hk).1.key] at h
     simp only [Value.int.injEq,true_and] at h
     have:=List.pairwise_iff_getElem.1 (List.nodup_iff_pairwise_ne.1 hnd0) k i (by simp;omega) (by simp;omega) hkj
     simp only [List.getElem_map,hie] at this
     omega
    have hk2:=hte.key
    generalize u[j] = y at *
    generalize hev:es[i].val=ev at *
    repeat ((first|refine qA rfl ?_|apply qB|refine qC rfl ?_|apply qD|apply qE|apply qF|apply qG|apply qH);try simp (disch:=(first|omega|(simp only [qI,qJ,qK]<;>omega)|exact qL _)) only [go_sem,↓reduceIte,n0,reduceCtorEq,n1,n2,n3,n4,n5,i0,i1,i2,i3,i4,i5,i6,i7,h39,h38,h37,hg6,hx,Int.toNat_natCast,Nat.mul_one,hb6,hm,h0',h1'])
    refine wp_lookup (i:=i) (n:=(y.1:Int)) tagsT u32T (by simp (disch:=(first|omega|(simp only [qI,qJ,qK]<;>omega)|exact qL _)) only [go_sem,↓reduceIte,n0,reduceCtorEq,n1,n2,n3,n4,n5,i0,i1,i2,i3,i4,i5,i6,i7]) (by simp (disch:=(first|omega|(simp only [qI,qJ,qK]<;>omega)|exact qL _)) only [go_sem,↓reduceIte,n0,reduceCtorEq,n1,n2,n3,n4,n5,i0,i1,i2,i3,i4,i5,i6,i7]) hr6 hKU (by omega) hk2 hk3 ?_
    simp (disch:=(first|omega|(simp only [qI,qJ,qK]<;>omega)|exact qL _)) only [go_sem,↓reduceIte,n0,reduceCtorEq,n1,n2,n3,n4,n5,i0,i1,i2,i3,i4,i5,i6,i7,hev,hF,h1']
    refine hst.mono ?_
    rintro r7 w7 ⟨hI7,hU7⟩
    repeat ((first|refine qA rfl ?_|apply qB|refine qC rfl ?_|apply qD|apply qE|apply qF|apply qG|apply qH);try simp (disch:=(first|omega|(simp only [qI,qJ,qK]<;>omega)|exact qL _)) only [go_sem,↓reduceIte,n0,reduceCtorEq,n1,n2,n3,n4,n5,i0,i1,i2,i3,i4,i5,i6,i7,h39])
    refine ⟨⟨j+1,by omega,?_,h38,h37,h0',h1',by rw [hsucc];exact hI7,hU7⟩,?_⟩
    ·rfl
    ·simp only [RowKit.intOf];omega
   ·have hlt':¬ (j:Int) < (xs.length:Int):=by omega
    repeat ((first|refine qA rfl ?_|apply qB|refine qC rfl ?_|apply qD|apply qE|apply qF|apply qG|apply qH);try simp (disch:=(first|omega|(simp only [qI,qJ,qK]<;>omega)|exact qL _)) only [go_sem,↓reduceIte,n0,reduceCtorEq,n1,n2,n3,n4,n5,i0,i1,i2,i3,i4,i5,i6,i7,h39,h38])
    have e:u.take j=u:=List.take_of_length_le (by omega)
    rw [e] at hI
    exact ⟨hI,hU⟩
  ·rintro ρ w6 ⟨hI,hU⟩
   repeat ((first|refine qA rfl ?_|apply qB|refine qC rfl ?_|apply qD|apply qE|apply qF|apply qG|apply qH);try simp (disch:=(first|omega|(simp only [qI,qJ,qK]<;>omega)|exact qL _)) only [go_sem,↓reduceIte,n0,reduceCtorEq,n1,n2,n3,n4,n5,i0,i1,i2,i3,i4,i5,i6,i7])
   exact ⟨w5,hE5,hI,hU⟩
end Ms

namespace Ms
open Go

def setDfL (t:Tree):List Fld→Nat→List Tree
 | [],_=>[]
 | f :: fs,i=>(if f.df=0 then t.at i else .num f.df) :: setDfL t fs (i+1)
def setDf (fs:List Fld) (t:Tree):Tree:=.mk t.n t.s t.null (setDfL t fs 0) t.u
theorem setDfL_get (t:Tree):∀ (fs:List Fld) (i k:Nat) (h:k < fs.length),(setDfL t fs i).getD k .zero=if fs[k].df=0 then t.at (i+k) else .num fs[k].df
 | f :: fs,i,0,h=>by simp [setDfL]
 | f :: fs,i,k+1,h=>by
  have:=setDfL_get t fs (i+1) k (by simpa using h)
  simp only [setDfL,List.getD_cons_succ,List.getElem_cons_succ]
  rw [this,show i+1+k=i+(k+1) by omega]
theorem setDf_at (fs:List Fld) (t:Tree) (k:Nat) (h:k < fs.length):(setDf fs t).at k=if fs[k].df=0 then t.at k else .num fs[k].df:=by
 have:=setDfL_get t fs 0 k h
 rw [Nat.zero_add] at this
 exact this
def okNum (fs:List Fld):Bool:=fs.all fun f=>decide (f.df=0∨f.kind=0∨numK f.kind)
theorem setDf_good {d:Nat} {fs:List Fld} {t:Tree} (hn:okNum fs=true) (hdf:okDf (d+1) fs=true) (h:GoodP (d+1) fs t):GoodP (d+1) fs (setDf fs t):=by
 refine ⟨?_,h.2⟩
 have key:∀ (l:List Fld) (i:Nat),(∀ k (hk:k < l.length),∃ hk':i+k < fs.length,fs[i+k] = l[k])→GoodL (GoodP d) t l i→GoodL (GoodP d) (setDf fs t) l i:=by
  intro l
  induction l with
  | nil=>intro _ _ _;trivial
  | cons f l ih =>
   intro i hl hg
   refine ⟨?_,ih (i+1) (fun k hk=>by
    obtain ⟨h1,h2⟩:=hl (k+1) (by simpa using hk)
    have e:i+(k+1)=i+1+k:=by omega
    refine ⟨by omega,?_⟩
    have h3:fs[i+1+k]'(by omega)=fs[i+(k+1)]:=by congr 1;omega
    rw [h3,h2];rfl) hg.2⟩
   obtain ⟨h1,h2⟩:=hl 0 (by simp)
   have h2':fs[i]'(by omega)=f:=by have:=h2;simpa using this
   rw [setDf_at fs t i (by omega),h2']
   split
   ·exact hg.1
   ·rename_i hd
    simp only [okNum,List.all_eq_true,decide_eq_true_eq] at hn
    have hf:f∈fs:=h2' ▸ List.getElem_mem _
    have hk:=(hn f hf).resolve_left hd
    have hk11:f.kind≠11:=by unfold numK at hk;omega
    unfold GoodF
    rw [if_neg hk11]
    exact good1_num (okDf_f hdf hf).1 (by unfold numK at hk;omega)
 exact key fs 0 (fun k hk=>⟨by omega,by simp⟩) h.1
theorem defaults_told {d:Nat} {fs:List Fld} {t:Tree} (hn:okNum fs=true):∀ i (h:i < fs.length),fs[i].df=0∨((tlP (d+1) fs (setDf fs t)).at i).n=numS fs[i].kind fs[i].df:=by
 intro i h
 by_cases hd:fs[i].df=0
 ·exact .inl hd
 ·refine .inr ?_
  rw [tlP,Tree.at_mk,tlL_get _ _ fs 0 i h,Nat.zero_add,setDf_at fs t i h,if_neg hd]
  simp only [okNum,List.all_eq_true,decide_eq_true_eq] at hn
  have hk:=(hn _ (List.getElem_mem h)).resolve_left hd
  generalize fs[i] = f at *
  by_cases h0:f.kind=0
  ·simp [tlF,tl1,h0,Tree.num,Tree.n,numS]
   exact mod2_if _
  ·have hk':f.kind=1∨f.kind=2∨f.kind=3∨f.kind=4∨f.kind=5∨f.kind=6:=hk.resolve_left h0
   have h7:f.kind≠7:=by omega
   have h8:f.kind≠8:=by omega
   have h9:f.kind≠9:=by omega
   have h10:f.kind≠10:=by omega
   have h11:f.kind≠11:=by omega
   simp [tlF,tl1,h0,h7,h8,h9,h10,h11,Tree.num,Tree.n,numS]
theorem RepS.mk' {d:Nat} {fs:List Fld} {ok:Blocks} {w:World} {t:Tree} {c:List Value} {v:Value} (h:RepL (RepS true d) (szS true d) ok w t fs 0 c) (ht:TagsM ok w v t.u):RepS true (d+1) fs ok w t (c++[v]) :=
 ⟨c,[v],rfl,h,by rw [if_pos rfl];exact ⟨v,rfl,ht⟩⟩
end Ms

namespace Ms
open Go.World renaming size_alloc → qI
open Ms renaming size_wr → qJ,size_drew → qK,not_noB → qL
open W renaming seqR → qA,seq → qB,regR → qC,condK → qD,block → qE,skip → qF,ret → qG,exit → qH
open Nat renaming reduceEqDiff → n0,reduceAdd → n1,reduceMul → n2,reduceSub → n3,reduceLT → n4,reduceLeDiff → n5
open Int renaming reduceEq → i0,reduceLT → i1,reduceLE → i2,reduceNeg → i3,reduceAdd → i4,reduceSub → i5,reduceMul → i6,reduceToNat → i7
set_option maxRecDepth 8000
set_option maxHeartbeats 2000000
open Go Go.Proofs Go.Shelf
attribute [local congr] W_congr WPsq_congr WPp_congr optK_congr addrK_congr intK_congr boolK_congr sliceK_congr tupleK_congr funcK_congr Fn_congr rawK_congr takeK_congr stepK_congr convK_congr aggK_congr

theorem got_step (t:Tree) (hl2:t.l.length≤32767) (hl3:t.u.length≤32767)
  (hrec:∀ i (h:i < t.l.length),∀ (ok:Blocks) (ct:List Value) (w:World),TreeC ok w t.l[i] ct→Fn Tryd.prog 11 #[.agg ct.toArray] w fun r w'=>TreeRg ok w w' r t.l[i]∧Ext w w')
  (ok:Blocks) (ct:List Value) (w:World) (ht:TreeC ok w t ct) :
  Fn Tryd.prog 11 #[.agg ct.toArray] w fun r w'=>TreeRg ok w w' r t∧Ext w w':=by
 obtain ⟨vS,vL,vU,rfl,hn,hS,hL,hU⟩:=ht.inv
 obtain ⟨bS,cS,rfl,hcS⟩:=hS.shape
 obtain ⟨bl,cl,rfl,hcl⟩:=SlR.shape hL
 obtain ⟨bu,cu,rfl,hcu⟩:=SlR.shape hU
 have hE:Ext w (wr (((w.alloc (.cells #[.int .i64 t.n,.slice bS t.s.length cS,.bool t.null,.slice bl t.l.length cl,.slice bu t.u.length cu] 37)).alloc (.cells #[.int .i64 0,.slice none 0 0,.bool false,.slice none 0 0,.slice none 0 0] 26)).alloc (.cells #[.int .i64 0,.slice none 0 0,.bool false,.slice none 0 0,.slice none 0 0] 26)) (w.heap.size+2) 0 [.int .i64 t.n,.slice bS t.s.length cS,.bool t.null,.slice none 0 0,.slice none 0 0]):=(((Upd.refl _ _).alloc _).alloc _).alloc _ |>.wr _ _ (.inl (by omega))
 refine fn_of_W Tryd.func11 rfl Tryd.results11 Tryd.ntmps11 rfl ?_
 repeat ((first|refine qA rfl ?_|apply qB|refine qC rfl ?_|apply qD|apply qE|apply qF|apply qG|apply qH);try simp (disch:=(first|omega|(simp only [qI,qJ,qK]<;>omega)|exact qL _)) only [go_sem,↓reduceIte,n0,reduceCtorEq,n1,n2,n3,n4,n5,i0,i1,i2,i3,i4,i5,i6,i7])
 have hb0:blk (wr (((w.alloc (.cells #[.int .i64 t.n,.slice bS t.s.length cS,.bool t.null,.slice bl t.l.length cl,.slice bu t.u.length cu] 37)).alloc (.cells #[.int .i64 0,.slice none 0 0,.bool false,.slice none 0 0,.slice none 0 0] 26)).alloc (.cells #[.int .i64 0,.slice none 0 0,.bool false,.slice none 0 0,.slice none 0 0] 26)) (w.heap.size+2) 0 [.int .i64 t.n,.slice bS t.s.length cS,.bool t.null,.slice none 0 0,.slice none 0 0]) w.heap.size=some (#[.int .i64 t.n,.slice bS t.s.length cS,.bool t.null,.slice bl t.l.length cl,.slice bu t.u.length cu],37,(0,0)):=by simp (disch:=(first|omega|(simp only [qI,qJ,qK]<;>omega)|exact qL _)) only [go_sem,↓reduceIte,n0,reduceCtorEq,n1,n2,n3,n4,n5,i0,i1,i2,i3,i4,i5,i6,i7]
 have hb1:blk (wr (((w.alloc (.cells #[.int .i64 t.n,.slice bS t.s.length cS,.bool t.null,.slice bl t.l.length cl,.slice bu t.u.length cu] 37)).alloc (.cells #[.int .i64 0,.slice none 0 0,.bool false,.slice none 0 0,.slice none 0 0] 26)).alloc (.cells #[.int .i64 0,.slice none 0 0,.bool false,.slice none 0 0,.slice none 0 0] 26)) (w.heap.size+2) 0 [.int .i64 t.n,.slice bS t.s.length cS,.bool t.null,.slice none 0 0,.slice none 0 0]) (w.heap.size+1)=some (#[.int .i64 0,.slice none 0 0,.bool false,.slice none 0 0,.slice none 0 0],26,(0,0)):=by simp (disch:=(first|omega|(simp only [qI,qJ,qK]<;>omega)|exact qL _)) only [go_sem,↓reduceIte,n0,reduceCtorEq,n1,n2,n3,n4,n5,i0,i1,i2,i3,i4,i5,i6,i7]
 have hb2:blk (wr (((w.alloc (.cells #[.int .i64 t.n,.slice bS t.s.length cS,.bool t.null,.slice bl t.l.length cl,.slice bu t.u.length cu] 37)).alloc (.cells #[.int .i64 0,.slice none 0 0,.bool false,.slice none 0 0,.slice none 0 0] 26)).alloc (.cells #[.int .i64 0,.slice none 0 0,.bool false,.slice none 0 0,.slice none 0 0] 26)) (w.heap.size+2) 0 [.int .i64 t.n,.slice bS t.s.length cS,.bool t.null,.slice none 0 0,.slice none 0 0]) (w.heap.size+2)=some (#[.int .i64 t.n,.slice bS t.s.length cS,.bool t.null,.slice none 0 0,.slice none 0 0],26,(0,0)):=by simp (disch:=(first|omega|(simp only [qI,qJ,qK]<;>omega)|exact qL _)) only [go_sem,↓reduceIte,n0,reduceCtorEq,n1,n2,n3,n4,n5,i0,i1,i2,i3,i4,i5,i6,i7]
 have hz2:(wr (((w.alloc (.cells #[.int .i64 t.n,.slice bS t.s.length cS,.bool t.null,.slice bl t.l.length cl,.slice bu t.u.length cu] 37)).alloc (.cells #[.int .i64 0,.slice none 0 0,.bool false,.slice none 0 0,.slice none 0 0] 26)).alloc (.cells #[.int .i64 0,.slice none 0 0,.bool false,.slice none 0 0,.slice none 0 0] 26)) (w.heap.size+2) 0 [.int .i64 t.n,.slice bS t.s.length cS,.bool t.null,.slice none 0 0,.slice none 0 0]).heap.size=w.heap.size+3:=by simp only [size_wr,World.size_alloc]
 generalize (wr (((w.alloc (.cells #[.int .i64 t.n,.slice bS t.s.length cS,.bool t.null,.slice bl t.l.length cl,.slice bu t.u.length cu] 37)).alloc (.cells #[.int .i64 0,.slice none 0 0,.bool false,.slice none 0 0,.slice none 0 0] 26)).alloc (.cells #[.int .i64 0,.slice none 0 0,.bool false,.slice none 0 0,.slice none 0 0] 26)) (w.heap.size+2) 0 [.int .i64 t.n,.slice bS t.s.length cS,.bool t.null,.slice none 0 0,.slice none 0 0])=w2 at *
 refine W.exitJ 0 (fun ρ w'=>∃ v,ρ 1 = .pointer (some ⟨w.heap.size,0,none⟩)∧ρ 2 = .pointer (some ⟨w.heap.size+1,0,none⟩)∧ρ 3 = .pointer (some ⟨w.heap.size+2,0,none⟩) ∧
   blk w' (w.heap.size+2)=some (#[.int .i64 t.n,.slice bS t.s.length cS,.bool t.null,v,.slice none 0 0],26,(0,0))∧GrowT (fun b=>okN ok w.heap.size b∧b≠w.heap.size+1∧b≠w.heap.size+2) w2.heap.size (w.heap.size+2) w' 26 v t.l∧Upd (fun b=>b=w.heap.size+2) w2 w')
  (W.loop (fun ρ w'=>∃ (j:Nat) (v:Value),j≤t.l.length∧ρ 18 = .int .i64 j∧ρ 17 = .int .i64 t.l.length∧ρ 16 = .slice bl t.l.length cl∧ρ 1 = .pointer (some ⟨w.heap.size,0,none⟩)∧ρ 2 = .pointer (some ⟨w.heap.size+1,0,none⟩)∧ρ 3 = .pointer (some ⟨w.heap.size+2,0,none⟩) ∧
   blk w' (w.heap.size+2)=some (#[.int .i64 t.n,.slice bS t.s.length cS,.bool t.null,v,.slice none 0 0],26,(0,0))∧GrowT (fun b=>okN ok w.heap.size b∧b≠w.heap.size+1∧b≠w.heap.size+2) w2.heap.size (w.heap.size+2) w' 26 v (t.l.take j)∧Upd (fun b=>b=w.heap.size+2) w2 w')
  (fun ρ _=>t.l.length - (RowKit.intOf (ρ 18)).toNat) ?_ ?_) ?_
 ·refine ⟨0,_,Nat.zero_le _,?_,?_,?_,?_,?_,?_,hb2,GrowT.nil _ _ _ _ _,Upd.refl _ _⟩<;>simp (disch:=(first|omega|(simp only [qI,qJ,qK]<;>omega)|exact qL _)) only [go_sem,↓reduceIte,n0,reduceCtorEq,n1,n2,n3,n4,n5,i0,i1,i2,i3,i4,i5,i6,i7]
  all_goals rfl
 ·rintro ρ w6 ⟨j,v,hj,h18,h17,h16,h1,h2,h3,hbt,hg,hU6⟩
  have hz6:=hU6.size
  have hE06:Ext w w6:=hE.more hU6 fun b hb h=>by omega
  by_cases hlt:j < t.l.length
  ·obtain ⟨_,b,o,x,vS',vL',vU',hb,hokb,hx,hblt,hxs,hxe,g1,g2,g3,hc⟩:=TreesV.get hL hlt
   subst hb
   have hx6:blk w6 b=some x:=hE06.blk_some hx id
   have hcat:t.l.take (j+1)=t.l.take j++[t.l[j]]:=List.take_succ_eq_append_getElem hlt
   have hlen9:(t.l.take j).length=j:=by simp;omega
   have hnb:∀ b,b < w2.heap.size∨b=w6.heap.size→¬ ownB v b:=fun b hb h=>by
    have:=hg.above h
    have:=hg.below h
    omega
   have hE7:Ext w6 (wr (w6.alloc (.cells #[.int .i64 0,.slice none 0 0,.bool false,.slice none 0 0,.slice none 0 0] 37)) w6.heap.size 0 [.int .i64 t.l[j].n,vS',.bool t.l[j].null,vL',vU']):=(Upd.alloc (Upd.refl _ _) _).wr _ _ (.inl (Nat.le_refl _))
   have hb7:blk (wr (w6.alloc (.cells #[.int .i64 0,.slice none 0 0,.bool false,.slice none 0 0,.slice none 0 0] 37)) w6.heap.size 0 [.int .i64 t.l[j].n,vS',.bool t.l[j].null,vL',vU']) w6.heap.size=some (#[.int .i64 t.l[j].n,vS',.bool t.l[j].null,vL',vU'],37,(0,0)):=by simp (disch:=(first|omega|(simp only [qI,qJ,qK]<;>omega)|exact qL _)) only [go_sem,↓reduceIte,n0,reduceCtorEq,n1,n2,n3,n4,n5,i0,i1,i2,i3,i4,i5,i6,i7]
   have hz7:(wr (w6.alloc (.cells #[.int .i64 0,.slice none 0 0,.bool false,.slice none 0 0,.slice none 0 0] 37)) w6.heap.size 0 [.int .i64 t.l[j].n,vS',.bool t.l[j].null,vL',vU']).heap.size=w6.heap.size+1:=by simp only [size_wr,World.size_alloc]
   have hrecj:=hrec j hlt (fun b=>ok b∧b < w.heap.size) [.int .i64 t.l[j].n,vS',.bool t.l[j].null,vL',vU']
   repeat ((first|refine qA rfl ?_|apply qB|refine qC rfl ?_|apply qD|apply qE|apply qF|apply qG|apply qH);try simp (disch:=(first|omega|(simp only [qI,qJ,qK]<;>omega)|exact qL _)) only [go_sem,↓reduceIte,n0,reduceCtorEq,n1,n2,n3,n4,n5,i0,i1,i2,i3,i4,i5,i6,i7,h18,h17,h16,hx6,hxe,g1,g2,g3,cellsAt_five,Int.toNat_natCast])
   generalize (wr (w6.alloc (.cells #[.int .i64 0,.slice none 0 0,.bool false,.slice none 0 0,.slice none 0 0] 37)) w6.heap.size 0 [.int .i64 t.l[j].n,vS',.bool t.l[j].null,vL',vU'])=w7 at *
   have hbt7:=hE7.blk_some hbt id
   refine W.drawR (.take 0 (.take 1 (.take 2 (.only 3 (.only 4 (.only 5 (.take 6 (.last 7)))))))) (ownB v) mixed (by kernel_rfl) ?_
   simp (disch:=(first|omega|(simp only [qI,qJ,qK]<;>omega)|exact qL _|(refine hnb _ ?_;first|omega|(simp only [World.size_alloc,size_wr,size_drew]<;>omega)))) only [go_sem,↓reduceIte,n0,reduceCtorEq,n1,n2,n3,n4,n5,i0,i1,i2,i3,i4,i5,i6,i7,h3,hbt7,hb7,cellsAt_five,cellsAt_eight]
   have hE7d:Ext w7 w7.drew:=(Upd.refl _ _).drew
   have hE07d:Ext w w7.drew:=(hE06.trans hE7).trans hE7d
   have hzd:w7.drew.heap.size=w7.heap.size:=size_drew _
   refine (hrecj w7.drew ((hc.weaken fun b h1 h2=>⟨h2,h1⟩).keep (hE07d.keeps _))).mono ?_
   rintro v8 w8 ⟨⟨c8,rfl,hc8⟩,hE8⟩
   generalize t.l[j] = T at *
   obtain ⟨vS8,vL8,vU8,rfl,hn8,hS8,hL8,hU8⟩:=hc8.inv
   have k1:=hS8.flat
   have k2:=SlR.flat hL8
   have k3:=SlR.flat hU8
   have hz8:=hE8.size
   simp only [size_drew] at hz8
   have hM8:Upd (ownB v) w7.drew w8:=hE8.mono (fun _ h=>h.elim)
   have hE68:Ext w6 w8:=(hE7.trans hE7d).trans hE8
   have hE9:Ext w8 (w8.alloc (.cells #[.int .i64 T.n,vS8,.bool T.null,vL8,vU8] 26)):=Upd.alloc (Upd.refl _ _) _
   have hM9:Upd (ownB v) w7.drew (w8.alloc (.cells #[.int .i64 T.n,vS8,.bool T.null,vL8,vU8] 26)):=hM8.alloc _
   refine ⟨hM8,?_⟩
   simp (disch:=(first|omega|(simp only [qI,qJ,qK]<;>omega)|exact qL _)) only [go_sem,↓reduceIte,n0,reduceCtorEq,n1,n2,n3,n4,n5,i0,i1,i2,i3,i4,i5,i6,i7,k1,k2,k3]
   refine ⟨hM9,?_⟩
   have hg9:=(hg.ext hE68).ext hE9
   have hx9:TreeC (fun b=>(fun b=>okN ok w.heap.size b∧b≠w.heap.size+1∧b≠w.heap.size+2) b∧b≠w.heap.size+2∧¬ ownB v b) (w8.alloc (.cells #[.int .i64 T.n,vS8,.bool T.null,vL8,vU8] 26)) T [.int .i64 T.n,vS8,.bool T.null,vL8,vU8] :=
    (hc8.keep (hE9.keeps _)).weaken fun b _ hk=>by
     rcases hk with ⟨h1,h2⟩|h2
     ·exact ⟨⟨.inl h1,by omega,by omega⟩,by omega,fun h=>by have:=hg.above h;omega⟩
     ·exact ⟨⟨.inr (by omega),by omega,by omega⟩,by omega,fun h=>by have:=hg.below h;omega⟩
   obtain ⟨css,hown,hall⟩:=hg9.ex
   have hcl9:=hall.1
   refine wp_append ap_23_23 (m:=1) (news:=[.int .i64 T.n,vS8,.bool T.null,vL8,vU8]) (n:=css.length) (cs:=css.flatten) (v:=v) ?_ rfl hown.1 (all2_flat_tree hall) (Src.blk (fr:=(0,0)) (T:=26) (blk_alloc_new rfl) rfl (flat_tree hx9).1) ?_ ?_ ?_
   ·simp (disch:=(first|omega|(simp only [qI,qJ,qK]<;>omega)|exact qL _)) only [go_sem,↓reduceIte,n0,reduceCtorEq,n1,n2,n3,n4,n5,i0,i1,i2,i3,i4,i5,i6,i7]
   ·simp only [World.size_alloc];omega
   ·omega
   intro v' w10 ho hu hfr
   have hg10:=GrowT.snoc hown hall hx9 hu hfr ho
   have hz10:=hu.size
   simp only [World.size_alloc] at hz10
   obtain ⟨va,vc,hv',_⟩:=ho.shape
   subst hv'
   have hbt10:=(hM9.trans hu).blk_some (hE7d.blk_some hbt7 id) (hnb _ (by omega))
   have htb:¬ ownB (.slice va (css.length+1) vc) (w.heap.size+2):=fun h=>by
    rcases hfr _ h with h|h
    ·exact hnb _ (.inl (by omega)) h
    ·simp only [World.size_alloc] at h;omega
   simp (disch:=(first|omega|(simp only [qI,qJ,qK]<;>omega)|exact qL _)) only [go_sem,↓reduceIte,n0,reduceCtorEq,n1,n2,n3,n4,n5,i0,i1,i2,i3,i4,i5,i6,i7]
   refine ⟨hM9.trans hu,?_⟩
   simp (disch:=(first|omega|(simp only [qI,qJ,qK]<;>omega)|exact qL _)) only [go_sem,↓reduceIte,n0,reduceCtorEq,n1,n2,n3,n4,n5,i0,i1,i2,i3,i4,i5,i6,i7,h3,hbt10]
   repeat ((first|refine qA rfl ?_|apply qB|refine qC rfl ?_|apply qD|apply qE|apply qF|apply qG|apply qH);try simp (disch:=(first|omega|(simp only [qI,qJ,qK]<;>omega)|exact qL _)) only [go_sem,↓reduceIte,n0,reduceCtorEq,n1,n2,n3,n4,n5,i0,i1,i2,i3,i4,i5,i6,i7,h18])
   refine ⟨⟨j+1,.slice va (css.length+1) vc,by omega,rfl,h17,h16,h1,h2,h3,?_,?_,?_⟩,?_⟩
   ·simp (disch:=(first|omega|(simp only [qI,qJ,qK]<;>omega)|exact qL _)) only [go_sem,↓reduceIte,n0,reduceCtorEq,n1,n2,n3,n4,n5,i0,i1,i2,i3,i4,i5,i6,i7,hbt10]
   ·rw [hcat];exact hg10.upd ((Upd.refl _ _).wr _ _ (.inr rfl)) htb
   ·refine Upd.wr ?_ _ _ (.inr rfl)
    exact hU6.more (((hE68.trans hE9).mono fun _ h=>h.elim).trans hu) fun b hb h=>by have:=hg.above h;omega
   ·simp only [RowKit.intOf];omega
  ·have hjl:j=t.l.length:=by omega
   subst hjl
   rw [List.take_length] at hg
   repeat ((first|refine qA rfl ?_|apply qB|refine qC rfl ?_|apply qD|apply qE|apply qF|apply qG|apply qH);try simp (disch:=(first|omega|(simp only [qI,qJ,qK]<;>omega)|exact qL _)) only [go_sem,↓reduceIte,n0,reduceCtorEq,n1,n2,n3,n4,n5,i0,i1,i2,i3,i4,i5,i6,i7,h18,h17])
   exact ⟨v,h1,h2,h3,hbt,hg,hU6⟩
 ·rintro ρ w5 ⟨vl,h1,h2,h3,hbt,hg,hU5⟩
  have hz5:=hU5.size
  have hE05:Ext w w5:=hE.more hU5 fun b hb h=>by omega
  have hb05:=hU5.blk_some hb0 (by omega)
  have hb15:=hU5.blk_some hb1 (by omega)
  obtain ⟨al,cl',hvl,hcl'⟩:=hg.shape
  subst hvl
  have hTL:TreesV (fun b=>(fun b=>okN ok w.heap.size b∧b≠w.heap.size+1∧b≠w.heap.size+2) b∧b < w5.heap.size) w5 (.slice al t.l.length cl') t.l :=
   (hg.trees (ok':=(fun b=>okN ok w.heap.size b∧b≠w.heap.size+1∧b≠w.heap.size+2)) (fun _ _ h=>h) (fun b hb=>⟨.inr (by omega),by omega,by omega⟩)).weaken fun b h1 h2=>⟨h2,h1⟩
  simp (disch:=(first|omega|(simp only [qI,qJ,qK]<;>omega)|exact qL _)) only [go_sem,↓reduceIte,n0,reduceCtorEq,n1,n2,n3,n4,n5,i0,i1,i2,i3,i4,i5,i6,i7]
  repeat ((first|refine qA rfl ?_|apply qB|refine qC rfl ?_|apply qD|apply qE|apply qF|apply qG|apply qH);try simp (disch:=(first|omega|(simp only [qI,qJ,qK]<;>omega)|exact qL _)) only [go_sem,↓reduceIte,n0,reduceCtorEq,n1,n2,n3,n4,n5,i0,i1,i2,i3,i4,i5,i6,i7,h1,hb05])
  refine W.loop (fun ρ w'=>∃ (j:Nat) (v:Value),j≤t.u.length∧ρ 33 = .int .i64 j∧ρ 32 = .int .i64 t.u.length∧ρ 31 = .slice bu t.u.length cu∧ρ 2 = .pointer (some ⟨w.heap.size+1,0,none⟩)∧ρ 3 = .pointer (some ⟨w.heap.size+2,0,none⟩) ∧
    blk w' (w.heap.size+2)=some (#[.int .i64 t.n,.slice bS t.s.length cS,.bool t.null,.slice al t.l.length cl',v],26,(0,0))∧GrowU (fun b=>okN ok w.heap.size b∧b≠w.heap.size+1∧b≠w.heap.size+2) w5.heap.size (w.heap.size+2) w' 62 v (t.u.take j)∧Upd (fun b=>b=w.heap.size+2) w5 w')
   (fun ρ _=>t.u.length - (RowKit.intOf (ρ 33)).toNat) ?_ ?_
  ·refine ⟨0,_,Nat.zero_le _,?_,?_,?_,?_,?_,hbt,GrowU.nil _ _ _ _ _,Upd.refl _ _⟩<;>simp (disch:=(first|omega|(simp only [qI,qJ,qK]<;>omega)|exact qL _)) only [go_sem,↓reduceIte,n0,reduceCtorEq,n1,n2,n3,n4,n5,i0,i1,i2,i3,i4,i5,i6,i7,h2,h3]
   all_goals rfl
  ·clear h1 h2 h3 hg hbt
   rintro ρ w6 ⟨j,v,hj,h33,h32',h31,h2,h3,hbt,hg,hU6⟩
   have hz6:=hU6.size
   have hE06:Ext w w6:=hE05.more hU6 fun b hb h=>by omega
   by_cases hlt:j < t.u.length
   ·obtain ⟨_,b,o,x,vv,hb,hokb,hx,hblt,hxs,hxe,_,_,hfv,hbv,h32⟩:=TagsV.get hU hlt
    subst hb
    have hx6:blk w6 b=some x:=hE06.blk_some hx id
    have hcat:t.u.take (j+1)=t.u.take j++[(t.u[j].1,t.u[j].2)]:=List.take_succ_eq_append_getElem hlt
    have hlen9:(t.u.take j).length=j:=by simp;omega
    have hnb:∀ b,b < w5.heap.size∨b=w6.heap.size→¬ ownB v b:=fun b hb h=>by
     have:=hg.above h
     have:=hg.below h
     omega
    generalize t.u[j].1=K at *
    generalize t.u[j].2=S at *
    obtain ⟨b8',c8',rfl,_⟩:=hbv.shape
    have hE8:Ext w6 (wr (w6.alloc (.cells #[.int .u32 0,.slice none 0 0] 61)) w6.heap.size 0 [.int .u32 K,.slice b8' S.length c8']):=(Upd.alloc (Upd.refl _ _) _).wr _ _ (.inl (Nat.le_refl _))
    have hb8:blk (wr (w6.alloc (.cells #[.int .u32 0,.slice none 0 0] 61)) w6.heap.size 0 [.int .u32 K,.slice b8' S.length c8']) w6.heap.size=some (#[.int .u32 K,.slice b8' S.length c8'],61,(0,0)):=by simp (disch:=(first|omega|(simp only [qI,qJ,qK]<;>omega)|exact qL _)) only [go_sem,↓reduceIte,n0,reduceCtorEq,n1,n2,n3,n4,n5,i0,i1,i2,i3,i4,i5,i6,i7]
    have hz8:(wr (w6.alloc (.cells #[.int .u32 0,.slice none 0 0] 61)) w6.heap.size 0 [.int .u32 K,.slice b8' S.length c8']).heap.size=w6.heap.size+1:=by simp only [size_wr,World.size_alloc]
    repeat ((first|refine qA rfl ?_|apply qB|refine qC rfl ?_|apply qD|apply qE|apply qF|apply qG|apply qH);try simp (disch:=(first|omega|(simp only [qI,qJ,qK]<;>omega)|exact qL _)) only [go_sem,↓reduceIte,n0,reduceCtorEq,n1,n2,n3,n4,n5,i0,i1,i2,i3,i4,i5,i6,i7,h33,h32',h31,h3,hx6,hxe,hbt,cellsAt_two,Int.toNat_natCast])
    generalize (wr (w6.alloc (.cells #[.int .u32 0,.slice none 0 0] 61)) w6.heap.size 0 [.int .u32 K,.slice b8' S.length c8'])=w8' at *
    have hbt8:=hE8.blk_some hbt id
    have hbv8:=(hbv.weaken (ok':=fun b=>ok b∧b < w.heap.size) fun b h1 h2=>⟨h2,h1⟩).keep (Ext.keeps (hE06.trans hE8) _)
    have hg8:=hg.ext hE8
    have hMd:Upd (ownB v) w8' (w8'.alloc (.cells #[.int .u32 K,.slice b8' S.length c8'] 62)):=(Upd.refl _ _).alloc _
    have hx9:TagC (fun b=>(fun b=>okN ok w.heap.size b∧b≠w.heap.size+1∧b≠w.heap.size+2) b∧b≠w.heap.size+2∧¬ ownB v b) (w8'.alloc (.cells #[.int .u32 K,(.slice b8' S.length c8')] 62)) (K,S) [.int .u32 K,(.slice b8' S.length c8')] :=
     ⟨(.slice b8' S.length c8'),rfl,(hbv8.keep (Ext.keeps (Upd.alloc (Upd.refl _ _) _) _)).weaken fun b _ hk=>⟨⟨.inl hk.1,by omega,by omega⟩,by omega,fun h=>by have:=hg.above h;omega⟩,h32⟩
    have hg9:=hg8.ext (Upd.alloc (Upd.refl _ _) (.cells #[.int .u32 K,(.slice b8' S.length c8')] 62))
    obtain ⟨css9,hown9,hall9⟩:=hg9.ex
    have hcl9:=hall9.1
    refine wp_append ap_24_24 (m:=1) (news:=[.int .u32 K,(.slice b8' S.length c8')]) (n:=css9.length) (cs:=css9.flatten) (v:=v) ?_ rfl hown9.1 hall9.flat_cells (Src.blk (fr:=(0,0)) (T:=62) (blk_alloc_new (by first|rfl|omega)) rfl (flat_tag hx9).1) ?_ ?_ ?_
    ·simp (disch:=(first|omega|(simp only [qI,qJ,qK]<;>omega)|exact qL _)) only [go_sem,↓reduceIte,n0,reduceCtorEq,n1,n2,n3,n4,n5,i0,i1,i2,i3,i4,i5,i6,i7]
    ·simp only [World.size_alloc];omega
    ·omega
    intro v' w10 ho hu hfr
    have hg10:=GrowU.snoc hown9 hall9 hx9 hu hfr ho
    have hz10:=hu.size
    simp only [World.size_alloc] at hz10
    obtain ⟨va,vc,hv',_⟩:=ho.shape
    subst hv'
    have htb:¬ ownB (.slice va (css9.length+1) vc) (w.heap.size+2):=fun h=>by
     rcases hfr _ h with h|h
     ·exact hnb _ (.inl (by omega)) h
     ·simp only [World.size_alloc] at h;omega
    have hbt10:=(hMd.trans hu).blk_some hbt8 (hnb _ (by omega))
    simp (disch:=(first|omega|(simp only [qI,qJ,qK]<;>omega)|exact qL _)) only [go_sem,↓reduceIte,n0,reduceCtorEq,n1,n2,n3,n4,n5,i0,i1,i2,i3,i4,i5,i6,i7,h3,hbt10]
    repeat ((first|refine qA rfl ?_|apply qB|refine qC rfl ?_|apply qD|apply qE|apply qF|apply qG|apply qH);try simp (disch:=(first|omega|(simp only [qI,qJ,qK]<;>omega)|exact qL _)) only [go_sem,↓reduceIte,n0,reduceCtorEq,n1,n2,n3,n4,n5,i0,i1,i2,i3,i4,i5,i6,i7,h33])
    refine ⟨⟨j+1,.slice va (css9.length+1) vc,by omega,rfl,h32',h31,h2,h3,?_,?_,?_⟩,?_⟩
    ·simp (disch:=(first|omega|(simp only [qI,qJ,qK]<;>omega)|exact qL _)) only [go_sem,↓reduceIte,n0,reduceCtorEq,n1,n2,n3,n4,n5,i0,i1,i2,i3,i4,i5,i6,i7,hbt10]
    ·rw [hcat];exact hg10.upd ((Upd.refl _ _).wr _ _ (.inr rfl)) htb
    ·refine Upd.wr ?_ _ _ (.inr rfl)
     exact hU6.more (((hE8.mono fun _ h=>h.elim).trans hMd).trans hu) fun b hb h=>by have:=hg.above h;omega
    ·simp only [RowKit.intOf];omega
   ·have hjl:j=t.u.length:=by omega
    subst hjl
    rw [List.take_length] at hg
    obtain ⟨va,vc,hv',_⟩:=hg.shape
    subst hv'
    have hb16:=hU6.blk_some hb15 (by omega)
    repeat ((first|refine qA rfl ?_|apply qB|refine qC rfl ?_|apply qD|apply qE|apply qF|apply qG|apply qH);try simp (disch:=(first|omega|(simp only [qI,qJ,qK]<;>omega)|exact qL _)) only [go_sem,↓reduceIte,n0,reduceCtorEq,n1,n2,n3,n4,n5,i0,i1,i2,i3,i4,i5,i6,i7,h33,h32',h2,h3,hbt,hb16,cellsAt_five])
    refine ⟨⟨_,rfl,?_⟩,hE06.wr _ _ (.inl (by omega))⟩
    have hTL6:=hTL.keep (hU6.keeps fun b _ hk e=>by omega)
    have hTU6:=hg.tags (ok':=(fun b=>okN ok w.heap.size b∧b≠w.heap.size+1∧b≠w.heap.size+2)) (fun _ _ h=>h) (fun b hb=>⟨.inr (by omega),by omega,by omega⟩)
    have hS6:=(hS.weaken (ok':=fun b=>ok b∧b < w.heap.size) fun b h1 h2=>⟨h2,h1⟩).keep (Ext.keeps hE06 _)
    have hU9:Upd (fun b=>b=w.heap.size+1) w6 (wr w6 (w.heap.size+1) 0 [.int .i64 t.n,.slice bS t.s.length cS,.bool t.null,.slice al t.l.length cl',.slice va t.u.length vc]):=(Upd.refl _ _).wr _ _ (.inr rfl)
    have ht:t = .mk t.n t.s t.null t.l t.u:=by cases t;rfl
    rw [ht]
    exact TreeC.intro hn ((hS6.keep (hU9.keeps fun b _ hk e=>by omega)).weaken fun b _ hk=>.inl hk.1) ((hTL6.keep (hU9.keeps fun b _ hk e=>hk.1.2.1 e)).weaken fun b _ hk=>hk.1.1) ((hTU6.keep (hU9.keeps fun b _ hk e=>hk.2.1 e)).weaken fun b _ hk=>hk.1)

theorem got_fn {t:Tree} (h:Lists t):∀ (ok:Blocks) (ct:List Value) (w:World),TreeC ok w t ct→Fn Tryd.prog 11 #[.agg ct.toArray] w fun r w'=>TreeRg ok w w' r t∧Ext w w':=by
 induction h with
 | mk hl hu he ih=>exact got_step _ hl hu ih

set_option maxHeartbeats 24000000
open Go Go.Proofs Go.Shelf
attribute [local congr] W_congr WPsq_congr WPp_congr optK_congr addrK_congr intK_congr boolK_congr sliceK_congr tupleK_congr funcK_congr Fn_congr rawK_congr takeK_congr stepK_congr convK_congr aggK_congr

theorem number_fn (k n:Int) (w:World):Fn Tryd.prog 21 #[.int .i64 k,.int .i64 n] w fun r w'=>r = .int .i64 (numS k n)∧w'=w:=by
 refine fn_of_W Tryd.func21 rfl Tryd.results21 Tryd.ntmps21 rfl ?_
 by_cases h0:k=0
 ·subst h0
  repeat ((first|refine qA rfl ?_|apply qB|refine qC rfl ?_|apply qD|apply qE|apply qF|apply qG|apply qH);try simp (disch:=(first|omega|(simp only [qI,qJ,qK]<;>omega)|exact qL _)) only [go_sem,↓reduceIte,n0,reduceCtorEq,n1,n2,n3,n4,n5,i0,i1,i2,i3,i4,i5,i6,i7,and1])
  have e:(((n % 2).toNat:Nat):Int)=n % 2:=by omega
  try rw [e]
  all_goals rfl
 by_cases h1:k=1
 ·subst h1
  repeat ((first|refine qA rfl ?_|apply qB|refine qC rfl ?_|apply qD|apply qE|apply qF|apply qG|apply qH);try simp (disch:=(first|omega|(simp only [qI,qJ,qK]<;>omega)|exact qL _)) only [go_sem,↓reduceIte,n0,reduceCtorEq,n1,n2,n3,n4,n5,i0,i1,i2,i3,i4,i5,i6,i7,tl8])
  all_goals rfl
 by_cases h2:k=2
 ·subst h2
  repeat ((first|refine qA rfl ?_|apply qB|refine qC rfl ?_|apply qD|apply qE|apply qF|apply qG|apply qH);try simp (disch:=(first|omega|(simp only [qI,qJ,qK]<;>omega)|exact qL _)) only [go_sem,↓reduceIte,n0,reduceCtorEq,n1,n2,n3,n4,n5,i0,i1,i2,i3,i4,i5,i6,i7,tl16])
  all_goals rfl
 by_cases h3:k=3
 ·subst h3
  repeat ((first|refine qA rfl ?_|apply qB|refine qC rfl ?_|apply qD|apply qE|apply qF|apply qG|apply qH);try simp (disch:=(first|omega|(simp only [qI,qJ,qK]<;>omega)|exact qL _)) only [go_sem,↓reduceIte,n0,reduceCtorEq,n1,n2,n3,n4,n5,i0,i1,i2,i3,i4,i5,i6,i7,tl32])
  all_goals rfl
 by_cases h5:k=5
 ·subst h5
  repeat ((first|refine qA rfl ?_|apply qB|refine qC rfl ?_|apply qD|apply qE|apply qF|apply qG|apply qH);try simp (disch:=(first|omega|(simp only [qI,qJ,qK]<;>omega)|exact qL _)) only [go_sem,↓reduceIte,n0,reduceCtorEq,n1,n2,n3,n4,n5,i0,i1,i2,i3,i4,i5,i6,i7,tlu16])
  all_goals rfl
 repeat ((first|refine qA rfl ?_|apply qB|refine qC rfl ?_|apply qD|apply qE|apply qF|apply qG|apply qH);try simp (disch:=(first|omega|(simp only [qI,qJ,qK]<;>omega)|exact qL _)) only [go_sem,↓reduceIte,n0,reduceCtorEq,n1,n2,n3,n4,n5,i0,i1,i2,i3,i4,i5,i6,i7])
 simp [numS,wrapN,h0,h1,h2,h3,h5]


set_option maxHeartbeats 24000000
open Go Go.Proofs Go.Shelf
attribute [local congr] W_congr WPsq_congr WPp_congr optK_congr addrK_congr intK_congr boolK_congr sliceK_congr tupleK_congr funcK_congr Fn_congr rawK_congr takeK_congr stepK_congr convK_congr aggK_congr

theorem Defaults_fn (fs:List Fld) (g:Tree) (vf:Value) (cg:List Value) (w:World) (hf:FldsV AnyB w vf fs) (hfl:fs.length≤1000) (hg:TreeC AnyB w g cg) (hsm:Small 4611686018427387903 g)
  (hd:∀ i (h:i < fs.length),fs[i].df=0∨(g.at i).n=numS fs[i].kind fs[i].df) :
  Fn Tryd.prog 10 #[vf,.agg cg.toArray] w fun r w'=>r = .bool true∧Ext w w':=by
 obtain ⟨bf,cf,rfl,hcf⟩:=SlR.shape hf
 obtain ⟨gS,gL,gU,rfl,hgn,hgS,hgL,hgU⟩:=hg.inv
 have hl1:=hsm.s
 have hl2:=hsm.l
 have k1:=hgS.flat
 have k2:=SlR.flat hgL
 have k3:=SlR.flat hgU
 have hE:Ext w (w.alloc (.cells #[.int .i64 g.n,gS,.bool g.null,gL,gU] 26)):=Upd.alloc (Upd.refl _ _) _
 refine fn_of_W Tryd.func10 rfl Tryd.results10 Tryd.ntmps10 rfl ?_
 repeat ((first|refine qA rfl ?_|apply qB|refine qC rfl ?_|apply qD|apply qE|apply qF|apply qG|apply qH);try simp (disch:=(first|omega|(simp only [qI,qJ,qK]<;>omega)|exact qL _)) only [go_sem,↓reduceIte,n0,reduceCtorEq,n1,n2,n3,n4,n5,i0,i1,i2,i3,i4,i5,i6,i7,k1,k2,k3])
 have hb1:blk (w.alloc (.cells #[.int .i64 g.n,gS,.bool g.null,gL,gU] 26)) w.heap.size=some (#[.int .i64 g.n,gS,.bool g.null,gL,gU],26,(0,0)):=blk_alloc_new rfl
 have hz2:(w.alloc (.cells #[.int .i64 g.n,gS,.bool g.null,gL,gU] 26)).heap.size=w.heap.size+1:=by simp only [World.size_alloc]
 generalize (w.alloc (.cells #[.int .i64 g.n,gS,.bool g.null,gL,gU] 26))=w2 at *
 refine W.loop (LoopL [(8,.int .i64 fs.length),(7,.slice bf fs.length cf),(3,.pointer (some ⟨w.heap.size,0,none⟩))] 9 (fun j w'=>j≤fs.length∧Ext w2 w')) (fun ρ _=>fs.length - (RowKit.intOf (ρ 9)).toNat) ?_ ?_
 ·exact ⟨(by simp (disch:=(first|omega|(simp only [qI,qJ,qK]<;>omega)|exact qL _)) only [go_sem,↓reduceIte,n0,reduceCtorEq,n1,n2,n3,n4,n5,i0,i1,i2,i3,i4,i5,i6,i7,Holds_nil,Holds_cons]),0,(by simp (disch:=(first|omega|(simp only [qI,qJ,qK]<;>omega)|exact qL _)) only [go_sem,↓reduceIte,n0,reduceCtorEq,n1,n2,n3,n4,n5,i0,i1,i2,i3,i4,i5,i6,i7];all_goals rfl),Nat.zero_le _,Upd.refl _ _⟩
 rintro ρ w3 ⟨⟨h8,h7,h3,-⟩,j,h9,hj,hE3⟩
 have hz3:=hE3.size
 have hE03:Ext w w3:=hE.trans hE3
 have hb13:=hE3.blk_some hb1 id
 by_cases hlt:j < fs.length
 ·skip
  have hdj:=hd j hlt
  obtain ⟨_,b,o,x,vs2,hb,hokb,hx,hblt,hxs,hxe,hfl2,hsub2⟩:=FldsV.get hf hlt
  subst hb
  have hx3:blk w3 b=some x:=hE03.blk_some hx id
  generalize fs[j] = f at *
  have hE4:Ext w3 (wr (w3.alloc (.cells #[.int .i64 0,.int .i64 0,.int .i64 0,.int .i64 0,.int .i64 0,.int .i64 0,.int .i64 0,.slice none 0 0] 50)) w3.heap.size 0 [.int .i64 f.kind,.int .i64 f.fr,.int .i64 f.to,.int .i64 f.null,.int .i64 f.tag,.int .i64 f.df,.int .i64 f.of,vs2]):=(Upd.alloc (Upd.refl _ _) _).wr _ _ (.inl (Nat.le_refl _))
  have hb4:blk (wr (w3.alloc (.cells #[.int .i64 0,.int .i64 0,.int .i64 0,.int .i64 0,.int .i64 0,.int .i64 0,.int .i64 0,.slice none 0 0] 50)) w3.heap.size 0 [.int .i64 f.kind,.int .i64 f.fr,.int .i64 f.to,.int .i64 f.null,.int .i64 f.tag,.int .i64 f.df,.int .i64 f.of,vs2]) w3.heap.size=some (#[.int .i64 f.kind,.int .i64 f.fr,.int .i64 f.to,.int .i64 f.null,.int .i64 f.tag,.int .i64 f.df,.int .i64 f.of,vs2],50,(0,0)):=by rw [blk_wr_eq,blk_alloc_new rfl];rfl
  have hz4:(wr (w3.alloc (.cells #[.int .i64 0,.int .i64 0,.int .i64 0,.int .i64 0,.int .i64 0,.int .i64 0,.int .i64 0,.slice none 0 0] 50)) w3.heap.size 0 [.int .i64 f.kind,.int .i64 f.fr,.int .i64 f.to,.int .i64 f.null,.int .i64 f.tag,.int .i64 f.df,.int .i64 f.of,vs2]).heap.size=w3.heap.size+1:=by simp only [size_wr,World.size_alloc]
  repeat ((first|refine qA rfl ?_|apply qB|refine qC rfl ?_|apply qD|apply qE|apply qF|apply qG|apply qH);try simp (disch:=(first|omega|(simp only [qI,qJ,qK]<;>omega)|exact qL _)) only [go_sem,↓reduceIte,n0,reduceCtorEq,n1,n2,n3,n4,n5,i0,i1,i2,i3,i4,i5,i6,i7,h9,h8,h7,hx3,hxe,hfl2,Int.toNat_natCast])
  generalize (wr (w3.alloc (.cells #[.int .i64 0,.int .i64 0,.int .i64 0,.int .i64 0,.int .i64 0,.int .i64 0,.int .i64 0,.slice none 0 0] 50)) w3.heap.size 0 [.int .i64 f.kind,.int .i64 f.fr,.int .i64 f.to,.int .i64 f.null,.int .i64 f.tag,.int .i64 f.df,.int .i64 f.of,vs2])=w4 at *
  have hE04:=hE03.trans hE4
  have hb14:=hE4.blk_some hb13 id
  have hE24:=hE3.trans hE4
  have hEd:Ext w4 w4.drew:=(Upd.refl _ _).drew
  have hE0d:=hE04.trans hEd
  have hE2d:=hE24.trans hEd
  refine W.drawR (.take 0 (.take 1 (.take 2 (.take 3 (.take 4 (.take 5 (.take 8 (.take 9 (.take 10 (.take 11 (.only 6 (.two 7 (.only 12 (.take 13 (.take 14 .done))) 12 (.only 7 (.take 13 (.take 14 .done))))))))))))))) NoB mixed (by kernel_rfl) ?_
  by_cases hz:f.df=0
  ·skip
   try simp (disch:=(first|omega|(simp only [qI,qJ,qK]<;>omega)|exact qL _)) only [go_sem,↓reduceIte,n0,reduceCtorEq,n1,n2,n3,n4,n5,i0,i1,i2,i3,i4,i5,i6,i7,h3,hb4,hb14,hz,beq_self_eq_true,bne_self_eq_false,ne_eq,not_true_eq_false,not_false_eq_true]
   refine ⟨?_,?_⟩
   ·skip
    repeat ((first|refine qA rfl ?_|apply qB|refine qC rfl ?_|apply qD|apply qE|apply qF|apply qG|apply qH);try simp (disch:=(first|omega|(simp only [qI,qJ,qK]<;>omega)|exact qL _)) only [go_sem,↓reduceIte,n0,reduceCtorEq,n1,n2,n3,n4,n5,i0,i1,i2,i3,i4,i5,i6,i7,h9])
    refine ⟨⟨(by simp (disch:=(first|omega|(simp only [qI,qJ,qK]<;>omega)|exact qL _)) only [go_sem,↓reduceIte,n0,reduceCtorEq,n1,n2,n3,n4,n5,i0,i1,i2,i3,i4,i5,i6,i7,Holds_nil,Holds_cons,h8,h7,h3]),j+1,(by simp (disch:=(first|omega|(simp only [qI,qJ,qK]<;>omega)|exact qL _)) only [go_sem,↓reduceIte,n0,reduceCtorEq,n1,n2,n3,n4,n5,i0,i1,i2,i3,i4,i5,i6,i7,h9];all_goals rfl),by omega,hE2d⟩,?_⟩
    try simp (disch:=(first|omega|(simp only [qI,qJ,qK]<;>omega)|exact qL _)) only [go_sem,↓reduceIte,n0,reduceCtorEq,n1,n2,n3,n4,n5,i0,i1,i2,i3,i4,i5,i6,i7,h9]
    simp only [RowKit.intOf]
    omega
   ·skip
    repeat ((first|refine qA rfl ?_|apply qB|refine qC rfl ?_|apply qD|apply qE|apply qF|apply qG|apply qH);try simp (disch:=(first|omega|(simp only [qI,qJ,qK]<;>omega)|exact qL _)) only [go_sem,↓reduceIte,n0,reduceCtorEq,n1,n2,n3,n4,n5,i0,i1,i2,i3,i4,i5,i6,i7,h9])
    refine ⟨⟨(by simp (disch:=(first|omega|(simp only [qI,qJ,qK]<;>omega)|exact qL _)) only [go_sem,↓reduceIte,n0,reduceCtorEq,n1,n2,n3,n4,n5,i0,i1,i2,i3,i4,i5,i6,i7,Holds_nil,Holds_cons,h8,h7,h3]),j+1,(by simp (disch:=(first|omega|(simp only [qI,qJ,qK]<;>omega)|exact qL _)) only [go_sem,↓reduceIte,n0,reduceCtorEq,n1,n2,n3,n4,n5,i0,i1,i2,i3,i4,i5,i6,i7,h9];all_goals rfl),by omega,hE2d⟩,?_⟩
    try simp (disch:=(first|omega|(simp only [qI,qJ,qK]<;>omega)|exact qL _)) only [go_sem,↓reduceIte,n0,reduceCtorEq,n1,n2,n3,n4,n5,i0,i1,i2,i3,i4,i5,i6,i7,h9]
    simp only [RowKit.intOf]
    omega
  replace hdj:=hdj.resolve_left hz
  try simp (disch:=(first|omega|(simp only [qI,qJ,qK]<;>omega)|exact qL _)) only [go_sem,↓reduceIte,n0,reduceCtorEq,n1,n2,n3,n4,n5,i0,i1,i2,i3,i4,i5,i6,i7,h3,hb4,hb14,hz,cellsAt_five,beq_self_eq_true,bne_self_eq_false,ne_eq,not_true_eq_false,not_false_eq_true]
  generalize w4.drew=w5 at *
  refine (at_fn (ok:=AnyB) g j _ w5 (hg.keep (Ext.keeps hE0d _)) (by omega) (by omega)).mono ?_
  rintro _ w6 ⟨⟨c6,rfl,hc6⟩,hE6⟩
  obtain ⟨xS,xL,xU,rfl,hxn,hxS,hxL,hxU⟩:=hc6.inv
  refine ⟨hE6,?_⟩
  try simp (disch:=(first|omega|(simp only [qI,qJ,qK]<;>omega)|exact qL _)) only [go_sem,↓reduceIte,n0,reduceCtorEq,n1,n2,n3,n4,n5,i0,i1,i2,i3,i4,i5,i6,i7]
  refine ⟨?_,?_⟩
  ·skip
   refine ⟨hE6,?_⟩
   try simp (disch:=(first|omega|(simp only [qI,qJ,qK]<;>omega)|exact qL _)) only [go_sem,↓reduceIte,n0,reduceCtorEq,n1,n2,n3,n4,n5,i0,i1,i2,i3,i4,i5,i6,i7]
   refine (number_fn f.kind f.df w6).mono ?_
   rintro _ wq ⟨rfl,hwq⟩
   obtain rfl:=hwq.symm
   refine ⟨hE6,?_⟩
   try simp (disch:=(first|omega|(simp only [qI,qJ,qK]<;>omega)|exact qL _)) only [go_sem,↓reduceIte,n0,reduceCtorEq,n1,n2,n3,n4,n5,i0,i1,i2,i3,i4,i5,i6,i7,hdj,beq_self_eq_true,bne_self_eq_false,ne_eq,not_true_eq_false,not_false_eq_true]
   repeat ((first|refine qA rfl ?_|apply qB|refine qC rfl ?_|apply qD|apply qE|apply qF|apply qG|apply qH);try simp (disch:=(first|omega|(simp only [qI,qJ,qK]<;>omega)|exact qL _)) only [go_sem,↓reduceIte,n0,reduceCtorEq,n1,n2,n3,n4,n5,i0,i1,i2,i3,i4,i5,i6,i7,hdj,h9,beq_self_eq_true,bne_self_eq_false,ne_eq,not_true_eq_false,not_false_eq_true])
   refine ⟨⟨(by simp (disch:=(first|omega|(simp only [qI,qJ,qK]<;>omega)|exact qL _)) only [go_sem,↓reduceIte,n0,reduceCtorEq,n1,n2,n3,n4,n5,i0,i1,i2,i3,i4,i5,i6,i7,Holds_nil,Holds_cons,h8,h7,h3]),j+1,(by simp (disch:=(first|omega|(simp only [qI,qJ,qK]<;>omega)|exact qL _)) only [go_sem,↓reduceIte,n0,reduceCtorEq,n1,n2,n3,n4,n5,i0,i1,i2,i3,i4,i5,i6,i7,h9];all_goals rfl),by omega,hE2d.trans hE6⟩,?_⟩
   try simp (disch:=(first|omega|(simp only [qI,qJ,qK]<;>omega)|exact qL _)) only [go_sem,↓reduceIte,n0,reduceCtorEq,n1,n2,n3,n4,n5,i0,i1,i2,i3,i4,i5,i6,i7,h9]
   simp only [RowKit.intOf]
   omega
  ·skip
   refine (number_fn f.kind f.df w6).mono ?_
   rintro _ wq ⟨rfl,hwq⟩
   obtain rfl:=hwq.symm
   refine ⟨hE6,?_⟩
   try simp (disch:=(first|omega|(simp only [qI,qJ,qK]<;>omega)|exact qL _)) only [go_sem,↓reduceIte,n0,reduceCtorEq,n1,n2,n3,n4,n5,i0,i1,i2,i3,i4,i5,i6,i7]
   refine ⟨hE6,?_⟩
   try simp (disch:=(first|omega|(simp only [qI,qJ,qK]<;>omega)|exact qL _)) only [go_sem,↓reduceIte,n0,reduceCtorEq,n1,n2,n3,n4,n5,i0,i1,i2,i3,i4,i5,i6,i7,hdj,beq_self_eq_true,bne_self_eq_false,ne_eq,not_true_eq_false,not_false_eq_true]
   repeat ((first|refine qA rfl ?_|apply qB|refine qC rfl ?_|apply qD|apply qE|apply qF|apply qG|apply qH);try simp (disch:=(first|omega|(simp only [qI,qJ,qK]<;>omega)|exact qL _)) only [go_sem,↓reduceIte,n0,reduceCtorEq,n1,n2,n3,n4,n5,i0,i1,i2,i3,i4,i5,i6,i7,hdj,h9,beq_self_eq_true,bne_self_eq_false,ne_eq,not_true_eq_false,not_false_eq_true])
   refine ⟨⟨(by simp (disch:=(first|omega|(simp only [qI,qJ,qK]<;>omega)|exact qL _)) only [go_sem,↓reduceIte,n0,reduceCtorEq,n1,n2,n3,n4,n5,i0,i1,i2,i3,i4,i5,i6,i7,Holds_nil,Holds_cons,h8,h7,h3]),j+1,(by simp (disch:=(first|omega|(simp only [qI,qJ,qK]<;>omega)|exact qL _)) only [go_sem,↓reduceIte,n0,reduceCtorEq,n1,n2,n3,n4,n5,i0,i1,i2,i3,i4,i5,i6,i7,h9];all_goals rfl),by omega,hE2d.trans hE6⟩,?_⟩
   try simp (disch:=(first|omega|(simp only [qI,qJ,qK]<;>omega)|exact qL _)) only [go_sem,↓reduceIte,n0,reduceCtorEq,n1,n2,n3,n4,n5,i0,i1,i2,i3,i4,i5,i6,i7,h9]
   simp only [RowKit.intOf]
   omega
 repeat ((first|refine qA rfl ?_|apply qB|refine qC rfl ?_|apply qD|apply qE|apply qF|apply qG|apply qH);try simp (disch:=(first|omega|(simp only [qI,qJ,qK]<;>omega)|exact qL _)) only [go_sem,↓reduceIte,n0,reduceCtorEq,n1,n2,n3,n4,n5,i0,i1,i2,i3,i4,i5,i6,i7,h9,h8])
 all_goals exact hE03
end Ms

