/- A part of the proof: see the last text. -/
import Derived.Shelf.GgSortFunc.Insertion
import Derived.Shelf.GgSortFunc.Whole
import Derived.Shelf.GgSortFunc.Tiny
import Derived.Test.YtfeaoncgnhhjbaeGreatDoorProg
import Derived.KernelRfl
import Derived.Test.YtfeaoncgnhhjbaeGreatDoorC00
import Derived.Test.YtfeaoncgnhhjbaeGreatDoorC01
import Derived.Test.YtfeaoncgnhhjbaeGreatDoorC02
import Derived.Test.YtfeaoncgnhhjbaeGreatDoorC03
import Derived.Test.YtfeaoncgnhhjbaeGreatDoorC05
set_option linter.unusedSimpArgs false
set_option linter.unusedVariables false
namespace Ms
open Go Go.ChangeMaps

section
variable {P : Program} {ρ:Regs} {w:World} {K:Regs→World→Prop} {d:Option Nat} {type:TypeId} {pos:String} {after:Array Edge} {guard:Option (Nat × Bool)}
theorem wp_entry {x:Operand} {r bm since:Nat} {seen:Array Nat} {es:Array MapEntry} {clock:Nat} {e:MapEntry} (hx:ev ρ x = .pointer (some ⟨r,0,none⟩))
  (hr:w.heap[r]? = some (.mapIter (some bm) since (seen.push e.born) clock)) (hb:w.heap[bm]? = some (.map es clock)) (he:e∈es.toList) (hn:(es.toList.map (·.born)).Nodup) (hk:K (put ρ d (.tuple #[e.key,e.val])) w) :
  rawK P { dst:=d,op:=.entry x,type:=type,pos:=pos,after:=after,guard:=guard } ρ w K:=by
 refine wp_raw (v:=.tuple #[e.key,e.val]) ?_ hk
 simp only [execOp,hx,Sem.run_bind,run_entry_at w r bm since seen es clock e hr hb he hn,Result.andThen_ok,Sem.run_pure]
end

def keyN (e:MapEntry):Nat:=match e.key with|.int _ n=>n.toNat|_=>0
structure Ranged (es:Array MapEntry) (seen:Array Nat) (xs:List Nat) (l rest:List MapEntry):Prop where
 perm:(l++rest).Perm es.toList
 seen:seen.toList=l.map (·.born)
 keys:xs=l.map keyN
theorem Ranged.start (es:Array MapEntry):Ranged es #[] [] [] es.toList:=⟨List.Perm.refl _,rfl,rfl⟩
theorem mem_leftOf {es:Array MapEntry} {seen:Array Nat} {e:MapEntry} (h:e∈(leftOf es seen).toList):e∈es.toList∧e.born∉seen.toList:=by
 simp only [leftOf,Array.toList_filter,List.mem_filter] at h
 refine ⟨h.1,?_⟩
 have:=h.2
 simp at this
 simpa using this
theorem Ranged.step {es:Array MapEntry} {seen:Array Nat} {xs:List Nat} {l rest:List MapEntry} (h:Ranged es seen xs l rest) {e:MapEntry} (he:e∈(leftOf es seen).toList) :
  ∃ rest',Ranged es (seen.push e.born) (xs++[keyN e]) (l++[e]) rest'∧xs.length < es.size:=by
 obtain ⟨h1,h2⟩:=mem_leftOf he
 rw [h.seen] at h2
 have hm:e∈rest:=by
  rcases List.mem_append.1 (h.perm.mem_iff.2 h1) with h3|h3
  ·exact absurd (List.mem_map.2 ⟨e,h3,rfl⟩) h2
  ·exact h3
 obtain ⟨a,b,rfl⟩:=List.append_of_mem hm
 refine ⟨a++b,⟨?_,by simp [h.seen],by simp [h.keys]⟩,?_⟩
 ·refine List.Perm.trans ?_ h.perm
  rw [List.append_assoc]
  refine List.Perm.append_left l ?_
  show (e :: (a++b)).Perm _
  exact (List.perm_middle).symm
 ·have:=h.perm.length_eq
  have e1:xs.length=l.length:=by rw [h.keys,List.length_map]
  simp only [List.length_append,List.length_cons,Array.length_toList] at this
  omega
theorem Ranged.done {es:Array MapEntry} {seen:Array Nat} {xs:List Nat} {l rest:List MapEntry} (h:Ranged es seen xs l rest) (h0:(leftOf es seen).size=0) (hn:(es.toList.map (·.born)).Nodup):xs.Perm (es.toList.map keyN):=by
 have hr:rest=[]:=by
  cases rest with
  | nil=>rfl
  | cons e rest =>
   exfalso
   have h1:e∈es.toList:=h.perm.mem_iff.1 (by simp)
   have h2:e.born∉seen.toList:=by
    rw [h.seen]
    have hn2:((l++e :: rest).map (·.born)).Nodup:=(h.perm.map _).nodup_iff.2 hn
    rw [List.map_append,List.nodup_append] at hn2
    intro hm
    exact hn2.2.2 _ hm _ (by simp) rfl
   have h3:e∈(leftOf es seen).toList:=by
    simp only [leftOf,Array.toList_filter,List.mem_filter]
    refine ⟨h1,?_⟩
    simpa using h2
   have:(leftOf es seen).toList=[]:=by
    apply List.eq_nil_of_length_eq_zero
    simpa using h0
   rw [this] at h3;simp at h3
 subst hr
 rw [h.keys]
 have:=h.perm.map keyN
 simpa using this
theorem Ranged.len {es:Array MapEntry} {seen:Array Nat} {xs:List Nat} {l rest:List MapEntry} (h:Ranged es seen xs l rest):xs.length≤es.size:=by
 have:=h.perm.length_eq
 have e1:xs.length=l.length:=by rw [h.keys,List.length_map]
 simp only [List.length_append,Array.length_toList] at this
 omega

/-! ### The sort -/
def ltNat (a b:Nat):Bool:=decide (a < b)
theorem swo_ltNat : Go.Sort.SWO ltNat where
 irrefl x:=by simp [ltNat]
 trans x y z h1 h2:=by simp only [ltNat,decide_eq_true_eq] at *;omega
 ntrans x y z h1 h2:=by simp only [ltNat,decide_eq_false_iff_not] at *;omega
def u32V (n:Nat):Value:=.int .u32 n
theorem sorted_keys {xs d':Array Nat} {ks:List Nat} (hp:Go.Sort.PermIn 0 xs.size xs d') (hs:Go.Sort.SortedIn ltNat 0 xs.size d') (hk:xs.toList.Perm ks) (hks:ks.Pairwise (· < ·)):d'.toList=ks:=by
 obtain ⟨hsz,_,hperm⟩:=hp
 have e1:d'.extract 0 xs.size=d':=by rw [← hsz];exact Array.extract_size
 rw [e1,Array.extract_size] at hperm
 refine List.Perm.eq_of_pairwise (le:=fun x y=>x≤y) (fun a b _ _ h1 h2=>Nat.le_antisymm h1 h2) ?_ (hks.imp fun h=>Nat.le_of_lt h) (hperm.trans hk)
 rw [List.pairwise_iff_getElem]
 intro i j hi hj hij
 have hi':i < d'.size:=by simpa using hi
 have hj':j < d'.size:=by simpa using hj
 have:=hs i j (Nat.zero_le _) hij (by omega)
 rw [getElem!_pos d' j hj',getElem!_pos d' i hi'] at this
 simp only [ltNat,decide_eq_false_iff_not] at this
 simp only [Array.getElem_toList];omega

/-! ### Worlds behind the sort -/
theorem blk_mapBlock_ne (w:World) (b g:Nat) (f:Array Value→Array Value) (h:b≠g):(Go.Sort.mapBlock w g f).heap[b]? = w.heap[b]?:=by
 simp only [Go.Sort.mapBlock,Array.getElem?_modify]
 rw [if_neg (Ne.symm h)]
theorem upd_putRow (w:World) (n g off:Nat) (d:Array Nat) (os:Array Obj):Upd (fun b=>b=g) w (Go.Sort.grow (Go.Sort.putRow u32V (Go.Sort.ahead w n) g off d) os):=by
 refine ⟨rfl,rfl,rfl,?_,fun b hb hn => ?_⟩
 ·rw [Go.Sort.size_grow,Go.Sort.size_putRow];show w.heap.size≤_;exact Nat.le_add_right _ _
 ·rw [Go.Sort.heap_grow_old _ _ (by rw [Go.Sort.size_putRow];exact hb)]
  exact blk_mapBlock_ne _ _ _ _ hn
theorem upd_grow (w:World) (os:Array Obj):Ext w (Go.Sort.grow w os):=by
 refine ⟨rfl,rfl,rfl,?_,fun b hb hn=>Go.Sort.heap_grow_old _ _ hb⟩
 rw [Go.Sort.size_grow];exact Nat.le_add_right _ _
theorem blk_putRow {w:World} {g n off:Nat} {d:Array Nat} {os:Array Obj} {x:Blk} (h:blk w g=some x):blk (Go.Sort.grow (Go.Sort.putRow u32V (Go.Sort.ahead w n) g off d) os) g=some (Go.Sort.putCells u32V off d x.1,x.2):=by
 have hlt:=blk_lt h
 have e:(Go.Sort.grow (Go.Sort.putRow u32V (Go.Sort.ahead w n) g off d) os).heap[g]? = (w.heap[g]?).map (Go.Sort.onCells (Go.Sort.putCells u32V off d)):=by
  rw [Go.Sort.heap_grow_old _ _ (by rw [Go.Sort.size_putRow];exact hlt)]
  simp only [Go.Sort.putRow,Go.Sort.mapBlock,Array.getElem?_modify,if_true]
  rfl
 unfold blk at h ⊢
 rw [e]
 cases hh:w.heap[g]? with
 | none=>rw [hh] at h;cases h
 | some o =>
  rw [hh] at h
  cases o<;>first|(simp at h;done)|skip
  simp only [Option.some.injEq] at h
  subst h
  rfl
theorem putCells_row (d0 d:Array Nat) (rest:List Value) (h:d.size=d0.size):Go.Sort.putCells u32V 0 d (d0.toList.map u32V++rest).toArray=(d.toList.map u32V++rest).toArray:=by
 apply Array.ext_getElem?
 intro k
 simp only [Go.Sort.putCells,Array.getElem?_mapIdx,List.getElem?_toArray,Nat.zero_le,true_and,Nat.zero_add,Nat.sub_zero]
 by_cases hk:k < d.size
 ·rw [List.getElem?_append_left (by simp;omega),List.getElem?_append_left (by simpa using hk)]
  simp only [List.getElem?_map,Array.getElem?_toList]
  rw [Array.getElem?_eq_getElem (by omega:k < d0.size),Array.getElem?_eq_getElem hk]
  simp [hk]
 ·rw [List.getElem?_append_right (by simp;omega),List.getElem?_append_right (by simp;omega)]
  simp only [List.length_map,Array.length_toList,h]
  cases rest[k - d0.size]? with
  | none=>rfl
  | some x=>rw [Option.map_some,if_neg (by omega)]
theorem holds_row {w:World} {g:Nat} {d:Array Nat} {rest:List Value} {T:TypeId} {fr:Nat × Nat} {N:Nat} (h:blk w g=some ((d.toList.map u32V++rest).toArray,T,fr)) (ht:thaw fr 0 N=true) (hN:d.size≤N):Go.Sort.Holds u32V w g 0 d:=by
 intro j hj
 refine ⟨?_,?_⟩
 ·rw [cell?_blk,h,Option.bind_some]
  show ((d.toList.map u32V++rest).toArray)[0+j]? = _
  rw [Nat.zero_add,List.getElem?_toArray,List.getElem?_append_left (by simpa using hj),List.getElem?_map,Array.getElem?_toList,Array.getElem?_eq_getElem hj]
  simp [hj]
 ·rw [frozen?_blk h]
  simp only [thaw,Bool.or_eq_true,Nat.ble_eq] at ht
  simp only [Bool.and_eq_false_iff,decide_eq_false_iff_not]
  omega

/-! ### A slice in a box,that grows -/
structure BoxA (E T:TypeId) (B db:Nat) (w:World) (v0:Value) (s:List UInt8) (w':World) (v:Value):Prop where
 own:OwnBy E B w' v s
 box:blk w' db=some (#[v],T,(0,0))
 upd:Upd (fun b=>b=db∨ownB v0 b) w w'
 frame:∀ b,ownB v b→ownB v0 b∨w.heap.size≤b
 ne:¬ ownB v db
theorem BoxA.step {E T:TypeId} {B db:Nat} {w w1 w2:World} {v0 v1 v2:Value} {s add:List UInt8} (h:BoxA E T B db w v0 s w1 v1) (hd:db < w.heap.size) (a:AppR E B w1 v1 s add v2 w2) :
  BoxA E T B db w v0 (s++add) (wr w2 db 0 [v2]) v2∧blk w2 db=some (#[v1],T,(0,0)):=by
 have hz:=h.upd.size
 have hz2:=a.upd.size
 have hb2:blk w2 db=some (#[v1],T,(0,0)):=by rw [blk_of_heap (a.upd.keep db (by omega) h.ne)];exact h.box
 have hne:¬ ownB v2 db:=fun h1=>(a.frame db h1).elim h.ne (fun h=>by omega)
 refine ⟨⟨?_,?_,?_,?_,hne⟩,hb2⟩
 ·exact Own.upd a.own (Upd.wr (S:=fun b=>b=db) (Upd.refl _ _) _ _ (.inr rfl)) fun b hb e=>hne (e ▸ hb)
 ·rw [blk_wr_eq,hb2];rfl
 ·exact (Upd.trans' h.upd a.upd fun b hb ho=>(h.frame b ho).elim .inr (fun h=>by omega)).wr _ _ (.inr (.inl rfl))
 ·intro b hb
  rcases a.frame b hb with h1|h1
  ·exact h.frame b h1
  ·exact .inr (by omega)

section
variable {ok : Blocks} {w:World} {u:List TagD} {es:Array MapEntry} {clock:Nat} (hsz:es.size=u.length) (he:∀ i (h1:i < u.length) (h2:i < es.size),TagE ok w u[i] es[i]∧es[i].born < clock)
include hsz he
theorem tm_keys : es.toList.map keyN=u.map (·.1):=by
 apply List.ext_getElem (by simp [hsz])
 intro i h1 h2
 simp only [List.length_map,Array.length_toList] at h1 h2
 simp only [List.getElem_map,Array.getElem_toList]
 unfold keyN
 rw [(he i h2 h1).1.key]
 simp
theorem tm_old : ∀ x∈es.toList,x.born < clock:=by
 intro x hx
 obtain ⟨i,hi,rfl⟩:=List.getElem_of_mem hx
 simp only [Array.length_toList] at hi
 exact (he i (by omega) hi).2
theorem tm_keysU : KeysU es.toList:=by
 intro x hx
 obtain ⟨i,hi,rfl⟩:=List.getElem_of_mem hx
 simp only [Array.length_toList] at hi
 exact ⟨_,(he i (by omega) hi).1.key⟩
end
theorem tm_nodup {es:Array MapEntry} (h:∀ i j (h1:i < es.size) (h2:j < es.size),es[i].born=es[j].born→i=j):(es.toList.map (·.born)).Nodup:=by
 rw [List.nodup_iff_pairwise_ne,List.pairwise_iff_getElem]
 intro i j hi hj hij heq
 simp only [List.length_map,Array.length_toList] at hi hj
 simp only [List.getElem_map,Array.getElem_toList] at heq
 have:=h i j hi hj heq
 omega
def lenBox (o:Option Blk):Nat :=
 match o with
 | some x=>(match (x.1[0]?:Option Value) with|some (Value.slice _ n _)=>n|_=>0)
 | none=>0
theorem own_ne {B:Nat} {w:World} {E:TypeId} {size n:Nat} {v:Value} {cs:List Value} (h:Own B w E size v n cs) {b:Nat} (hb:∀ x,blk w b=some x→x.2.1≠E):¬ ownB v b:=by
 rcases h.2 with ⟨rfl,_⟩|⟨g,cap,rest,fr,rfl,_,h2,_⟩
 ·rintro ⟨_,_,_,h,_⟩;cases h
 ·rintro ⟨a,n,c,h,rfl⟩
  cases h
  exact hb _ h2 rfl
end Ms

namespace Ms
open Go.World renaming size_alloc → qI
open Ms renaming size_wr → qJ,size_drew → qK,not_noB → qL
open W renaming seqF → qA,seq → qB,regF → qC,condK → qD,block → qE,skip → qF,ret → qG,exit → qH
set_option maxRecDepth 4000
open Go Go.Proofs
attribute [local congr] W_congr WPsq_congr WPp_congr optK_congr addrK_congr intK_congr boolK_congr sliceK_congr tupleK_congr funcK_congr Fn_congr rawK_congr takeK_congr stepK_congr convK_congr aggK_congr

theorem tagsT : Tryz.prog.underlying 66=some (.map 60 22):=by kernel_rfl
theorem u32T : Tryz.prog.underlying 60=some (.int .u32):=by kernel_rfl

theorem TagsSet_none {tb to:Nat} {x:Blk} (w:World) (hb:blk w tb=some x) (hm:x.1[to]? = some (.map none)) (hth:thaw x.2.2 to 1=true) (k:Nat) (vv:Value) :
  Fn Tryz.prog 57 #[.pointer (some ⟨tb,to,none⟩),.int .u32 k,vv] w fun _ w' =>
   w'=Go.ChangeMaps.setBlock (wr (w.alloc (.map #[] 0)) tb to [.map (some w.heap.size)]) w.heap.size (.map #[{ key:=.int .u32 k,val:=vv,born:=0 }] 1):=by
 have hlt:to+1≤x.1.size:=(Array.getElem?_eq_some_iff.1 hm).1
 have hbl:=blk_lt hb
 have hb1:blk (w.alloc (.map #[] 0)) tb=some x:=blk_alloc_old hbl ▸ hb
 refine fn_of_W Tryz.func57 rfl Tryz.results57 Tryz.ntmps57 rfl ?_
 repeat ((first|refine qA ?_|apply qB|refine qC ?_|apply qD|apply qE|apply qF|apply qG|apply qH);try simp (disch:=(first|omega|(simp only [qI,qJ,qK]<;>omega)|exact qL _)) only [go_sem,hb,hm])
 refine wp_makeMap ?_
 simp (disch:=(first|omega|(simp only [qI,qJ,qK]<;>omega)|exact qL _)) only [go_sem,hb,hm,hb1,hth,hlt]
 have hg:((Array.setIfInBounds x.1 to (.map (some w.heap.size))))[to]? = some (.map (some w.heap.size)):=by simp [Nat.lt_of_succ_le hlt]
 have hh:(wr (w.alloc (.map #[] 0)) tb to [.map (some w.heap.size)]).heap[w.heap.size]? = some (.map #[] 0):=by
  rw [heap_wr_ne (by omega)]
  show (w.heap.push (.map #[] 0))[w.heap.size]? = _
  simp
 repeat ((first|refine qA ?_|apply qB|refine qC ?_|apply qD|apply qE|apply qF|apply qG|apply qH);try simp (disch:=(first|omega|(simp only [qI,qJ,qK]<;>omega)|exact qL _)) only [go_sem,hb,hm,hb1,hth,hg])
 refine wp_mapUpdate (n:=(k:Int)) (v:=vv) tagsT u32T (by simp (disch:=(first|omega|(simp only [qI,qJ,qK]<;>omega)|exact qL _)) only [go_sem]) (by simp (disch:=(first|omega|(simp only [qI,qJ,qK]<;>omega)|exact qL _)) only [go_sem]) (by simp (disch:=(first|omega|(simp only [qI,qJ,qK]<;>omega)|exact qL _)) only [go_sem]) hh (by simp [KeysU]) (by simp) ?_
 simp (disch:=(first|omega|(simp only [qI,qJ,qK]<;>omega)|exact qL _)) only [go_sem]
 repeat ((first|refine qA ?_|apply qB|refine qC ?_|apply qD|apply qE|apply qF|apply qG|apply qH);try simp (disch:=(first|omega|(simp only [qI,qJ,qK]<;>omega)|exact qL _)) only [go_sem])
 rfl
theorem TagsSet_some {tb to r clock:Nat} {x:Blk} {es:Array MapEntry} (w:World) (hb:blk w tb=some x) (hm:x.1[to]? = some (.map (some r))) (hr:w.heap[r]? = some (.map es clock)) (k:Nat) (vv:Value) (h1:KeysU es.toList) (h2:∀ e∈es.toList,e.key≠.int .u32 k) :
  Fn Tryz.prog 57 #[.pointer (some ⟨tb,to,none⟩),.int .u32 k,vv] w fun _ w' =>
   w'=Go.ChangeMaps.setBlock w r (.map (es.push { key:=.int .u32 k,val:=vv,born:=clock }) (clock+1)):=by
 refine fn_of_W Tryz.func57 rfl Tryz.results57 Tryz.ntmps57 rfl ?_
 repeat ((first|refine qA ?_|apply qB|refine qC ?_|apply qD|apply qE|apply qF|apply qG|apply qH);try simp (disch:=(first|omega|(simp only [qI,qJ,qK]<;>omega)|exact qL _)) only [go_sem,hb,hm])
 refine wp_mapUpdate (n:=(k:Int)) (v:=vv) tagsT u32T (by simp (disch:=(first|omega|(simp only [qI,qJ,qK]<;>omega)|exact qL _)) only [go_sem]) (by simp (disch:=(first|omega|(simp only [qI,qJ,qK]<;>omega)|exact qL _)) only [go_sem]) (by simp (disch:=(first|omega|(simp only [qI,qJ,qK]<;>omega)|exact qL _)) only [go_sem]) hr h1 h2 ?_
 simp (disch:=(first|omega|(simp only [qI,qJ,qK]<;>omega)|exact qL _)) only [go_sem]
 repeat ((first|refine qA ?_|apply qB|refine qC ?_|apply qD|apply qE|apply qF|apply qG|apply qH);try simp (disch:=(first|omega|(simp only [qI,qJ,qK]<;>omega)|exact qL _)) only [go_sem])

theorem less_fn {row rc bx n i j a b:Nat} {y x:Blk} (w:World) (hbx:blk w bx=some y) (hy:y.1[0]? = some (.slice (some ⟨row,0,none⟩) n rc)) (hx:blk w row=some x) (hi:i < n) (hj:j < n) (ha:x.1[i]? = some (u32V a)) (hb:x.1[j]? = some (u32V b)) :
  Fn Tryz.prog 71 #[.int .i64 i,.int .i64 j,.pointer (some ⟨bx,0,none⟩)] w fun r w'=>r = .bool (ltNat a b)∧w'=w.drew:=by
 have hlt:decide ((a:Int) < (b:Int))=ltNat a b:=by unfold ltNat;congr 1;exact propext (by omega)
 unfold u32V at ha hb
 have hl1:=blk_lt hbx
 have hl2:=blk_lt hx
 refine fn_of_W Tryz.func71 rfl Tryz.results71 Tryz.ntmps71 rfl ?_
 repeat ((first|refine qA ?_|apply qB|refine qC ?_|apply qD|apply qE|apply qF|apply qG|apply qH);try simp (disch:=(first|omega|(simp only [qI,qJ,qK]<;>omega)|exact qL _)) only [go_sem,hbx,hy,hx,ha,hb])
 refine W.drawR (.take 0 (.take 1 (.take 2 (.take 3 (.take 4 (.take 5 (.take 6 (.take 7 (.take 8 (.only 9 .done)))))))))) NoB mixed (by kernel_rfl) ?_
 simp (disch:=(first|omega|(simp only [qI,qJ,qK]<;>omega)|exact qL _)) only [go_sem,hbx,hy,hx,ha,hb,hlt,Int.toNat_natCast,Nat.mul_one]
 refine ⟨Upd.refl _ _,?_⟩
 repeat ((first|refine qA ?_|apply qB|refine qC ?_|apply qD|apply qE|apply qF|apply qG|apply qH);try simp (disch:=(first|omega|(simp only [qI,qJ,qK]<;>omega)|exact qL _)) only [go_sem])

end Ms

namespace Ms
open Go Go.ChangeMaps

section
variable {R : List Fld→Rel Tree} {S:List Fld→Nat} {f:Fld} {ok:Blocks} {w:World} {t:Tree} {c:List Value}
theorem RepF_num (h:f.kind=0∨f.kind=1∨f.kind=2∨f.kind=3∨f.kind=4∨f.kind=5∨f.kind=6):RepF R S f ok w t c↔c=[numC f.kind t.n]:=by
 unfold RepF Rep1
 rw [if_neg (by omega),if_neg (by omega),if_neg (by omega),if_neg (by omega),if_neg (by omega),if_neg (by omega),if_neg (by omega)]
theorem RepF_uuid (h:f.kind=7):RepF R S f ok w t c↔c=(uuidS t.s).map byteV:=by
 unfold RepF Rep1
 rw [if_neg (by omega),if_neg (by omega),if_neg (by omega),if_pos h]
theorem RepF_text (h:f.kind=8) (hn:f.null < 0):RepF R S f ok w t c↔c=[strV t.s]:=by
 unfold RepF Rep1
 rw [if_neg (by omega),if_neg (by omega),if_neg (by omega),if_neg (by omega),if_pos h]
theorem RepF_ptr (h:f.kind=8) (hn:0≤f.null):RepF R S f ok w t c↔∃ v,c=[v]∧PtrText ok w v t.null t.s:=by
 unfold RepF
 rw [if_pos ⟨h,hn⟩]
end
section
variable {R : List Fld→Rel Tree} {k:Int} {sub:List Fld} {ok:Blocks} {w:World} {t:Tree} {c:List Value}
theorem Rep1_num (h:k=0∨k=1∨k=2∨k=3∨k=4∨k=5∨k=6):Rep1 R k sub ok w t c↔c=[numC k t.n]:=by
 unfold Rep1
 rw [if_neg (by omega),if_neg (by omega),if_neg (by omega),if_neg (by omega)]
theorem Rep1_part : Rep1 R 10 sub ok w t c↔R sub ok w t c:=by
 unfold Rep1
 rw [if_neg (by omega),if_neg (by omega),if_neg (by omega),if_pos rfl]
end
theorem RepF.keepS {tg:Bool} {d:Nat} {f:Fld} {ok:Blocks} {w w':World} {t:Tree} {c:List Value} (h:RepF (RepS tg d) (szS tg d) f ok w t c) (k:Keeps ok w w'):RepF (RepS tg d) (szS tg d) f ok w' t c :=
 (RepF_lay f fun _=>RepS_lay tg d f.sub).keep h k
theorem RepF.weakenS {tg:Bool} {d:Nat} {f:Fld} {ok ok':Blocks} {w:World} {t:Tree} {c:List Value} (h:RepF (RepS tg d) (szS tg d) f ok w t c) (k:∀ b,b < w.heap.size→ok b→ok' b):RepF (RepS tg d) (szS tg d) f ok' w t c :=
 (RepF_lay f fun _=>RepS_lay tg d f.sub).weaken h k
theorem PtrText.shape {ok:Blocks} {w:World} {v:Value} {null:Bool} {s:List UInt8} (h:PtrText ok w v null s):∃ a,v = .pointer a:=by
 unfold PtrText at h
 split at h
 ·exact ⟨_,h⟩
 ·obtain ⟨b,o,x,h,_⟩:=h;exact ⟨_,h⟩
theorem OptBytes.shape {ok:Blocks} {w:World} {v:Value} {null:Bool} {s:List UInt8} (h:OptBytes ok w v null s):∃ a n c,v = .slice a n c:=by
 unfold OptBytes at h
 split at h
 ·exact ⟨_,_,_,h⟩
 ·obtain ⟨a,n,c,h⟩:=h.2;exact ⟨_,_,_,h⟩
theorem OptBytes.some {ok:Blocks} {w:World} {v:Value} {s:List UInt8} (h:OptBytes ok w v false s):BytesV ok w v s:=by
 unfold OptBytes at h
 rw [if_neg (by decide)] at h
 exact h.1
theorem list16 {α:Type} {l:List α} (h:l.length=16):∃ a b c d e f g i j k m n o p q r,l=[a,b,c,d,e,f,g,i,j,k,m,n,o,p,q,r]:=by
 match l,h with
 | [a,b,c,d,e,f,g,i,j,k,m,n,o,p,q,r],_=>exact ⟨a,b,c,d,e,f,g,i,j,k,m,n,o,p,q,r,rfl⟩

/-! ### A map of tags that is filled -/
def TagsG (ok:Blocks) (L:Nat) (w:World) (m:Value) (u:List TagD):Prop :=
 (m = .map none∧u=[])∨∃ r es clock,m = .map (some r)∧L≤r∧w.heap[r]? = some (.map es clock)∧es.size=u.length∧(∀ i (h1:i < u.length) (h2:i < es.size),TagE (fun b=>ok b∧b < L) w u[i] es[i]∧es[i].born < clock) ∧
  (∀ i j (h1:i < es.size) (h2:j < es.size),es[i].born=es[j].born→i=j)
theorem TagsG.start (ok:Blocks) (L:Nat) (w:World):TagsG ok L w (.map none) []:=.inl ⟨rfl,rfl⟩
theorem TagsG.tags {ok ok':Blocks} {L:Nat} {w:World} {m:Value} {u:List TagD} (h:TagsG ok L w m u) (h1:∀ b,b < L→ok b→ok' b) (h2:∀ b,L≤b→ok' b):TagsM ok' w m u:=by
 rcases h with h|⟨r,es,clock,g1,g2,g3,g4,g5,g6⟩
 ·exact .inl h
 ·exact .inr ⟨r,es,clock,g1,h2 r g2,g3,g4,fun i a b=>⟨(g5 i a b).1.weaken fun b _ hk=>h1 b hk.2 hk.1,(g5 i a b).2⟩,g6⟩
theorem TagsG.keep {ok:Blocks} {L:Nat} {w w':World} {m:Value} {u:List TagD} (h:TagsG ok L w m u) (k:∀ b,b < w.heap.size→(ok b∧b < L)∨L≤b→w'.heap[b]? = w.heap[b]?):TagsG ok L w' m u:=by
 rcases h with h|⟨r,es,clock,g1,g2,g3,g4,g5,g6⟩
 ·exact .inl h
 ·exact .inr ⟨r,es,clock,g1,g2,by rw [k r (heap_lt g3) (.inr g2)];exact g3,g4,fun i a b=>⟨(g5 i a b).1.keep fun b hb hk=>k b hb (.inl hk),(g5 i a b).2⟩,g6⟩
theorem TagsG.shape {ok:Blocks} {L:Nat} {w:World} {m:Value} {u:List TagD} (h:TagsG ok L w m u):∃ a,m = .map a:=by
 rcases h with ⟨h,_⟩|⟨r,es,clock,h,_⟩<;>exact ⟨_,h⟩
theorem TagsM.shape {ok:Blocks} {w:World} {m:Value} {u:List TagD} (h:TagsM ok w m u):∃ a,m = .map a:=by
 rcases h with ⟨h,_⟩|⟨r,es,clock,h,_⟩<;>exact ⟨_,h⟩
theorem tagE_push {ok:Blocks} {w:World} {u:List TagD} {es:Array MapEntry} {clock:Nat} (hsz:es.size=u.length) (h:∀ i (h1:i < u.length) (h2:i < es.size),TagE ok w u[i] es[i]∧es[i].born < clock) {y:TagD} {e:MapEntry} (he:TagE ok w y e) (hb:e.born=clock) :
  (es.push e).size=(u++[y]).length∧(∀ i (h1:i < (u++[y]).length) (h2:i < (es.push e).size),TagE ok w (u++[y])[i] (es.push e)[i]∧(es.push e)[i].born < clock+1):=by
 refine ⟨by simp [hsz],fun i h1 h2 => ?_⟩
 simp only [List.length_append,List.length_cons,List.length_nil] at h1
 by_cases hi:i < u.length
 ·rw [List.getElem_append_left hi,Array.getElem_push_lt (by omega)]
  obtain ⟨a,b⟩:=h i hi (by omega)
  exact ⟨a,by omega⟩
 ·have:i=es.size:=by omega
  subst this
  rw [Array.getElem_push_eq,List.getElem_append_right (by omega)]
  simp only [hsz,Nat.sub_self,List.getElem_cons_zero]
  exact ⟨he,by omega⟩
theorem inj_push {es:Array MapEntry} {clock:Nat} (h:∀ i j (h1:i < es.size) (h2:j < es.size),es[i].born=es[j].born→i=j) (hc:∀ i (h1:i < es.size),es[i].born < clock) {e:MapEntry} (hb:e.born=clock) :
  ∀ i j (h1:i < (es.push e).size) (h2:j < (es.push e).size),(es.push e)[i].born=(es.push e)[j].born→i=j:=by
 intro i j h1 h2 he
 simp only [Array.size_push] at h1 h2
 rw [Array.getElem_push,Array.getElem_push] at he
 split at he
 ·rename_i hi
  split at he
  ·rename_i hj;exact h i j hi hj he
  ·have:=hc i hi;omega
 ·split at he
  ·rename_i hj;have:=hc j hj;omega
  ·omega
end Ms
namespace Ms
open Go
theorem RepS.intro {d:Nat} {fs:List Fld} {ok:Blocks} {w:World} {t:Tree} {cs c:List Value} {v:Value} (h:cs=c++[v]) (h1:RepL (RepS true d) (szS true d) ok w t fs 0 c) (h2:TagsM ok w v t.u):RepS true (d+1) fs ok w t cs :=
 ⟨c,[v],h,h1,by rw [if_pos rfl];exact ⟨v,rfl,h2⟩⟩
theorem RepL.nil {R:List Fld→Rel Tree} {S:List Fld→Nat} {ok:Blocks} {w:World} {t:Tree} {i:Nat}:RepL R S ok w t [] i []:=rfl
theorem RepL.cons {R:List Fld→Rel Tree} {S:List Fld→Nat} {ok:Blocks} {w:World} {t:Tree} {f:Fld} {fs:List Fld} {i:Nat} {c rest:List Value} (h:RepF R S f ok w (t.at i) c) (hr:RepL R S ok w t fs (i+1) rest):RepL R S ok w t (f :: fs) i (c++rest) :=
 ⟨c,rest,rfl,h,hr⟩
section
variable {P : List Fld→Tree→Prop} {V:Int} {f:Fld} {t:Tree} (h:FitF P V f t)
include h
theorem FitF.list (hk:f.kind=11):t.l.length≤32767∧∀ x∈t.l,x.null=false∧Fit1 P f.of f.sub x:=by
 have:=h.2;rw [if_pos hk] at this;exact this
theorem FitF.one (hk:f.kind≠11):Fit1 P f.kind f.sub t:=by
 have:=h.2;rw [if_neg hk] at this;exact this
theorem FitF.text (hk:f.kind=8∨f.kind=9):t.s.length≤32767:=(h.one (by omega)).1 hk
end
theorem Lists.len {t:Tree} (h:Lists t):t.l.length≤32767:=by cases h;assumption
theorem Lists.get {t:Tree} (h:Lists t) {i:Nat} (hi:i < t.l.length):Lists t.l[i]:=by
 cases h with
 | mk h1 h2 h3=>exact h3 i hi
theorem Lists.at {t:Tree} (h:Lists t) (i:Nat):Lists (t.at i):=by
 by_cases hi:i < t.l.length
 ·have e:t.at i=t.l[i]:=by simp [Tree.at,hi]
  rw [e];exact h.get hi
 ·have e:t.at i = .zero:=by simp [Tree.at,hi]
  rw [e];exact .mk (by simp) (by simp) (fun i h=>by simp at h)

theorem GrowR.made {α:Type} {R:Rel α} {size:Nat} {ok:Blocks} {B tb:Nat} {w:World} {E:TypeId} {g cap:Nat} {c:Array Value} (h:blk w g=some (c,E,(0,0))) (hc:c.size=cap * size) (hB:B≤g):GrowR R size ok B tb w E (.slice (some ⟨g,0,none⟩) 0 cap) [] :=
 ⟨[],⟨⟨by simp,.inr ⟨g,cap,c.toList,(0,0),by simp,hB,by simpa using h,by simpa using hc,thaw_00 _ _,Nat.zero_le _⟩⟩,by simp [Css]⟩,rfl,fun i h=>by simp at h⟩
theorem GrowR.some {α:Type} {R:Rel α} {size:Nat} {ok:Blocks} {B tb:Nat} {w:World} {E:TypeId} {v:Value} {xs:List α} (h:GrowR R size ok B tb w E v xs) (hv:v≠.slice none 0 0):∃ a n k,v = .slice (some a) n k:=by
 obtain ⟨css,h1,_⟩:=h.ex
 rcases h1.1.2 with ⟨h2,_⟩|⟨g,cap,rest,fr,h2,_⟩
 ·exact absurd h2 hv
 ·exact ⟨_,_,_,h2⟩
end Ms
namespace Ms
end Ms
namespace Ms
open Go
theorem TagsG.lt {ok:Blocks} {L:Nat} {w:World} {q:Option Nat} {u:List TagD} (h:TagsG ok L w (.map q) u) {b:Nat} (hq:q=some b):b < w.heap.size∧L≤b:=by
 subst hq
 rcases h with ⟨h,_⟩|⟨r,es,clock,h,g2,g3,_⟩
 ·cases h
 ·cases h;exact ⟨heap_lt g3,g2⟩

section
variable {R : List Fld→Rel Tree} {S:List Fld→Nat} {ok:Blocks} {w:World} {t:Tree} {f:Fld} {fs:List Fld} {i:Nat} {rest:List Value}
theorem RepL.cons1 {v:Value} (h:RepF R S f ok w (t.at i) [v]) (hr:RepL R S ok w t fs (i+1) rest):RepL R S ok w t (f :: fs) i (v :: rest):=⟨[v],rest,rfl,h,hr⟩
theorem RepL.cons16 {x0 x1 x2 x3 x4 x5 x6 x7 x8 x9 x10 x11 x12 x13 x14 x15:Value} (h:RepF R S f ok w (t.at i) [x0,x1,x2,x3,x4,x5,x6,x7,x8,x9,x10,x11,x12,x13,x14,x15]) (hr:RepL R S ok w t fs (i+1) rest) :
  RepL R S ok w t (f :: fs) i (x0 :: x1 :: x2 :: x3 :: x4 :: x5 :: x6 :: x7 :: x8 :: x9 :: x10 :: x11 :: x12 :: x13 :: x14 :: x15 :: rest):=⟨_,rest,rfl,h,hr⟩
end

theorem cellsAt_full {x:Array Value} {n:Nat} (h:x.size=n):cellsAt x 0 n=some (.agg x):=by
 subst h
 rw [cellsAt_ok (by omega),Nat.zero_add,Array.extract_size]
end Ms

namespace Ms
set_option maxRecDepth 4000
open Go Go.Proofs Go.Shelf
attribute [local congr] W_congr WPsq_congr WPp_congr optK_congr addrK_congr intK_congr boolK_congr sliceK_congr tupleK_congr funcK_congr Fn_congr rawK_congr takeK_congr stepK_congr convK_congr aggK_congr

theorem TagsSet_fn {okT:Blocks} {L vb o:Nat} {x:Blk} {m:Value} {u:List TagD} (w:World) (hG:TagsG okT L w m u) (hL:L≤w.heap.size) (hvL:vb < L) (hb:blk w vb=some x) (hm:x.1[o]? = some m) (hth:thaw x.2.2 o 1=true)
  (y:TagD) (vv:Value) (hval:BytesV (fun b=>okT b∧b < L) w vv y.2) (hy:y.1 < 2 ^ 32) (hnew:∀ z∈u,z.1≠y.1) (hoT:∀ b,okT b→b≠vb) :
  Fn Tryz.prog 57 #[.pointer (some ⟨vb,o,none⟩),.int .u32 y.1,vv] w fun _ w'=>∃ m',blk w' vb=some (x.1.setIfInBounds o (.map m'),x.2)∧TagsG okT L w' (.map m') (u++[y])∧Upd (fun b=>b=vb∨m = .map (some b)) w w':=by
 have hlt:o < x.1.size:=(Array.getElem?_eq_some_iff.1 hm).1
 rcases hG with ⟨rfl,rfl⟩|⟨r,es,clock,rfl,g2,g3,g4,g5,g6⟩
 ·refine (TagsSet_none w hb hm hth y.1 vv).mono ?_
  rintro _ w' rfl
  have hbl:=blk_lt hb
  have hU1:Upd (fun b=>b=vb∨Value.map none = .map (some b)) w (wr (w.alloc (.map #[] 0)) vb o [.map (some w.heap.size)]):=((Upd.refl _ _).alloc _).wr _ _ (.inr (.inl rfl))
  have hU2:=hU1.setBlock w.heap.size (.map #[{ key:=.int .u32 y.1,val:=vv,born:=0 }] 1) (.inl (Nat.le_refl _))
  have hz:w.heap.size < (wr (w.alloc (.map #[] 0)) vb o [.map (some w.heap.size)]).heap.size:=by rw [size_wr,World.size_alloc];omega
  refine ⟨some w.heap.size,?_,.inr ⟨w.heap.size,_,1,rfl,hL,setBlock_same _ _ _ hz,rfl,fun i h1 h2 => ?_,fun i j h1 h2 _ => ?_⟩,hU2⟩
  ·rw [blk_of_heap (setBlock_ne _ _ _ (by omega)),blk_wr_eq,blk_alloc_old hbl,hb];rfl
  ·simp only [List.nil_append,List.length_cons,List.length_nil] at h1
   obtain rfl:i=0:=by omega
   refine ⟨⟨rfl,hy,hval.keep (hU2.keeps fun b hb hk h => ?_)⟩,Nat.zero_lt_one⟩
   rcases h with h|h
   ·exact hoT b hk.1 h
   ·cases h
  ·have h1':i < 1:=h1
   have h2':j < 1:=h2
   omega
 ·have hKU:=tm_keysU g4 g5
  refine (TagsSet_some w hb hm g3 y.1 vv hKU ?_).mono ?_
  ·intro e he
   obtain ⟨i,hi,rfl⟩:=List.getElem_of_mem he
   simp only [Array.length_toList] at hi
   have:=(g5 i (by omega) hi).1.key
   rw [Array.getElem_toList,this]
   intro h
   simp only [Value.int.injEq,true_and] at h
   exact hnew _ (List.getElem_mem (by omega:i < u.length)) (by omega)
  ·rintro _ w' rfl
   have hU2:Upd (fun b=>b=vb∨Value.map (some r) = .map (some b)) w _:=(Upd.refl _ w).setBlock r (.map (es.push { key:=.int .u32 y.1,val:=vv,born:=clock }) (clock+1)) (.inr (.inr rfl))
   have hkp:Keeps (fun b=>okT b∧b < L) w _:=hU2.keeps fun b hb hk h=>by
    rcases h with h|h
    ·exact hoT b hk.1 h
    ·cases h;have:=hk.2;omega
   have hp:=tagE_push (e:={ key:=.int .u32 y.1,val:=vv,born:=clock }) (y:=y) g4 (fun i h1 h2=>⟨(g5 i h1 h2).1.keep hkp,(g5 i h1 h2).2⟩) ⟨rfl,hy,hval.keep hkp⟩ rfl
   refine ⟨some r,?_,.inr ⟨r,_,clock+1,rfl,g2,setBlock_same _ _ _ (heap_lt g3),hp.1,hp.2,inj_push g6 (fun i h1=>(g5 i (by omega) h1).2) rfl⟩,hU2⟩
   rw [blk_of_heap (setBlock_ne _ _ _ (by omega)),hb]
   have e:x.1.setIfInBounds o (.map (some r))=x.1:=by
    apply Array.ext_getElem?
    intro k
    rw [Array.getElem?_setIfInBounds]
    split
    ·rename_i h;subst h
     exact hm.symm
    ·rfl
   rw [e]

end Ms

namespace Ms
open Go.World renaming size_alloc → qI
open Ms renaming size_wr → qJ,size_drew → qK,not_noB → qL
open W renaming seqF → qA,seq → qB,regF → qC,condK → qD,block → qE,skip → qF,ret → qG,exit → qH
set_option maxRecDepth 4000
open Go Go.Proofs Go.Shelf
attribute [local congr] W_congr WPsq_congr WPp_congr optK_congr addrK_congr intK_congr boolK_congr sliceK_congr tupleK_congr funcK_congr Fn_congr rawK_congr takeK_congr stepK_congr convK_congr aggK_congr

theorem version_fn (w:World) (n m:Nat) (hn:n < 256) (hm:m < 1000):Fn Tryz.prog 7 #[.int .u8 n,.int .i64 m] w fun r w'=>r = .int .i64 ((n % (m+1):Nat):Int)∧w'=w:=by
 have e1:IntKind.i64.wrap (n:Int)=n:=i64_wrap (by omega)
 have e2:IntKind.i64.wrap ((m:Int)+1)=(m:Int)+1:=i64_wrap (by omega)
 have e3:¬ ((m:Int)+1=0):=by omega
 have e4:((n:Int).tmod ((m:Int)+1))=((n % (m+1):Nat):Int):=by rw [Int.tmod_eq_emod_of_nonneg (by omega),Int.natCast_emod];rfl
 refine fn_of_W Tryz.func7 rfl Tryz.results7 Tryz.ntmps7 rfl ?_
 repeat ((first|refine qA ?_|apply qB|refine qC ?_|apply qD|apply qE|apply qF|apply qG|apply qH);try simp (disch:=omega) only [go_sem,e1,e2,e3,e4])
end Ms

namespace Ms
open Nat renaming reduceEqDiff → n0,reduceAdd → n1,reduceMul → n2,reduceSub → n3,reduceLT → n4,reduceLeDiff → n5
open Int renaming reduceEq → i0,reduceLT → i1,reduceLE → i2,reduceNeg → i3,reduceAdd → i4,reduceSub → i5,reduceMul → i6,reduceToNat → i7
set_option maxRecDepth 4000
open Go Go.Proofs Go.Shelf
def slRen : Ren where
 f:=fun x=>match x with
  | 6=>70
  | 10=>85
  | 11=>86
  | 12=>87
  | 13=>88
  | 14=>89
  | 24=>101
  | 25=>102
  | 26=>103
  | 27=>104
  | 28=>105
  | 29=>106
  | 30=>107
  | 31=>108
  | 32=>109
  | 33=>110
  | 34=>111
  | 35=>112
  | 36=>113
  | 37=>114
  | 38=>115
  | 39=>116
  | n=>n
 t:=fun x=>match x with
  | 20=>20
  | 26=>124
  | 35=>143
  | 0=>0
  | 37=>145
  | 3=>3
  | 41=>132
  | 44=>150
  | 49=>60
  | 51=>99
  | 4=>4
  | 54=>160
  | 53=>159
  | 58=>164
  | 5=>5
  | 9=>9
  | 60=>166
  | 64=>169
  | 66=>171
  | 67=>172
  | 17=>17
  | 32=>140
  | 33=>141
  | 82=>187
  | 12=>12
  | 75=>180
  | 76=>181
  | 77=>182
  | 78=>183
  | 79=>184
  | 80=>185
  | n=>n
 g:=fun n=>n
theorem sl6 : LaysGg.n6 Tryz.prog slRen where
 mixed:=by kernel_rfl
 f6:=by kernel_rfl
 f10:=by kernel_rfl
 f11:=by kernel_rfl
 f12:=by kernel_rfl
 f13:=by kernel_rfl
 f14:=by kernel_rfl
 f24:=by kernel_rfl
 f25:=by kernel_rfl
 f26:=by kernel_rfl
 f27:=by kernel_rfl
 f28:=by kernel_rfl
 f29:=by kernel_rfl
 f30:=by kernel_rfl
 f31:=by kernel_rfl
 f32:=by kernel_rfl
 f33:=by kernel_rfl
 f34:=by kernel_rfl
 f35:=by kernel_rfl
 f36:=by kernel_rfl
 f37:=by kernel_rfl
 f38:=by kernel_rfl
 f39:=by kernel_rfl
 t0:=Tryz.underlying0
 a0:=Tryz.isAgg0
 z0:=Tryz.sizeOf0
 v0:=Tryz.zeroValue0
 i0:=by kernel_rfl
 t3:=Tryz.underlying3
 a3:=Tryz.isAgg3
 z3:=Tryz.sizeOf3
 v3:=Tryz.zeroValue3
 i3:=by kernel_rfl
 t4:=Tryz.underlying4
 a4:=Tryz.isAgg4
 z4:=Tryz.sizeOf4
 v4:=Tryz.zeroValue4
 i4:=by kernel_rfl
 t5:=Tryz.underlying5
 a5:=Tryz.isAgg5
 z5:=Tryz.sizeOf5
 v5:=Tryz.zeroValue5
 i5:=by kernel_rfl
 t9:=Tryz.underlying9
 a9:=Tryz.isAgg9
 z9:=Tryz.sizeOf9
 v9:=Tryz.zeroValue9
 i9:=by kernel_rfl
 t12:=Tryz.underlying12
 a12:=Tryz.isAgg12
 z12:=Tryz.sizeOf12
 v12:=Tryz.zeroValue12
 i12:=by kernel_rfl
 t17:=Tryz.underlying17
 a17:=Tryz.isAgg17
 z17:=Tryz.sizeOf17
 v17:=Tryz.zeroValue17
 i17:=by kernel_rfl
 t20:=Tryz.underlying20
 a20:=Tryz.isAgg20
 z20:=Tryz.sizeOf20
 v20:=Tryz.zeroValue20
 i20:=by kernel_rfl
 t26:=Tryz.underlying124
 a26:=Tryz.isAgg124
 z26:=Tryz.sizeOf124
 v26:=Tryz.zeroValue124
 i26:=by kernel_rfl
 t32:=Tryz.underlying140
 a32:=Tryz.isAgg140
 z32:=Tryz.sizeOf140
 v32:=Tryz.zeroValue140
 i32:=by kernel_rfl
 t33:=Tryz.underlying141
 a33:=Tryz.isAgg141
 z33:=Tryz.sizeOf141
 v33:=Tryz.zeroValue141
 i33:=by kernel_rfl
 t35:=Tryz.underlying143
 a35:=Tryz.isAgg143
 z35:=Tryz.sizeOf143
 v35:=Tryz.zeroValue143
 i35:=by kernel_rfl
 t37:=Tryz.underlying145
 a37:=Tryz.isAgg145
 z37:=Tryz.sizeOf145
 v37:=Tryz.zeroValue145
 i37:=by kernel_rfl
 t41:=Tryz.underlying132
 a41:=Tryz.isAgg132
 z41:=Tryz.sizeOf132
 v41:=Tryz.zeroValue132
 i41:=by kernel_rfl
 t44:=Tryz.underlying150
 a44:=Tryz.isAgg150
 z44:=Tryz.sizeOf150
 v44:=Tryz.zeroValue150
 i44:=by kernel_rfl
 t49:=Tryz.underlying60
 a49:=Tryz.isAgg60
 z49:=Tryz.sizeOf60
 v49:=Tryz.zeroValue60
 i49:=by kernel_rfl
 t51:=Tryz.underlying99
 a51:=Tryz.isAgg99
 z51:=Tryz.sizeOf99
 v51:=Tryz.zeroValue99
 i51:=by kernel_rfl
 t53:=Tryz.underlying159
 a53:=Tryz.isAgg159
 z53:=Tryz.sizeOf159
 v53:=Tryz.zeroValue159
 i53:=by kernel_rfl
 t54:=Tryz.underlying160
 a54:=Tryz.isAgg160
 z54:=Tryz.sizeOf160
 v54:=Tryz.zeroValue160
 i54:=by kernel_rfl
 t58:=Tryz.underlying164
 a58:=Tryz.isAgg164
 z58:=Tryz.sizeOf164
 v58:=Tryz.zeroValue164
 i58:=by kernel_rfl
 t60:=Tryz.underlying166
 a60:=Tryz.isAgg166
 z60:=Tryz.sizeOf166
 v60:=Tryz.zeroValue166
 i60:=by kernel_rfl
 t64:=Tryz.underlying169
 a64:=Tryz.isAgg169
 z64:=Tryz.sizeOf169
 v64:=Tryz.zeroValue169
 i64:=by kernel_rfl
 t66:=Tryz.underlying171
 a66:=Tryz.isAgg171
 z66:=Tryz.sizeOf171
 v66:=Tryz.zeroValue171
 i66:=by kernel_rfl
 t67:=Tryz.underlying172
 a67:=Tryz.isAgg172
 z67:=Tryz.sizeOf172
 v67:=Tryz.zeroValue172
 i67:=by kernel_rfl
 t75:=Tryz.underlying180
 a75:=Tryz.isAgg180
 z75:=Tryz.sizeOf180
 v75:=Tryz.zeroValue180
 i75:=by kernel_rfl
 t76:=Tryz.underlying181
 a76:=Tryz.isAgg181
 z76:=Tryz.sizeOf181
 v76:=Tryz.zeroValue181
 i76:=by kernel_rfl
 t77:=Tryz.underlying182
 a77:=Tryz.isAgg182
 z77:=Tryz.sizeOf182
 v77:=Tryz.zeroValue182
 i77:=by kernel_rfl
 t78:=Tryz.underlying183
 a78:=Tryz.isAgg183
 z78:=Tryz.sizeOf183
 v78:=Tryz.zeroValue183
 i78:=by kernel_rfl
 t79:=Tryz.underlying184
 a79:=Tryz.isAgg184
 z79:=Tryz.sizeOf184
 v79:=Tryz.zeroValue184
 i79:=by kernel_rfl
 t80:=Tryz.underlying185
 a80:=Tryz.isAgg185
 z80:=Tryz.sizeOf185
 v80:=Tryz.zeroValue185
 i80:=by kernel_rfl
 t82:=Tryz.underlying187
 a82:=Tryz.isAgg187
 z82:=Tryz.sizeOf187
 v82:=Tryz.zeroValue187
 i82:=by kernel_rfl
end Ms

namespace Ms
set_option maxRecDepth 4000
open Go Go.Proofs Go.Shelf
attribute [local congr] W_congr WPsq_congr WPp_congr optK_congr addrK_congr intK_congr boolK_congr sliceK_congr tupleK_congr funcK_congr Fn_congr rawK_congr takeK_congr stepK_congr convK_congr aggK_congr

theorem calls_bool {P:Program} {f:Nat} {args:Array Value} {w W:World} {b:Bool} (h:Fn P f args w fun r w'=>r = .bool b∧w'=W.drew):Calls P f args w fun e w'=>e = .returned (.bool b)∧∃ q,w'=W.drewN q :=
 Calls.mono h fun e w' he=>by
  cases e with
  | returned v=>exact ⟨by rw [he.1],1,he.2⟩
  | _=>exact he.elim

theorem sort_fn {row c b4 N:Nat} {y:Blk} {fr:Nat × Nat} {rest:List Value} (xs:Array Nat) (w:World) (hrow:blk w row=some ((xs.toList.map u32V++rest).toArray,60,fr)) (ht:thaw fr 0 N=true) (hN:xs.size≤N)
  (hb4:blk w b4=some y) (hy:y.1[0]? = some (.slice (some ⟨row,0,none⟩) xs.size c)) (hne:b4≠row) (ks:List Nat) (hp:xs.toList.Perm ks) (hk:ks.Pairwise (· < ·)) (hsz:xs.size < 4611686018427387904) :
  Fn Tryz.prog 70 #[.iface 122 (.slice (some ⟨row,0,none⟩) xs.size c),.func (.func 71) #[] #[.pointer (some ⟨b4,0,none⟩)]] w fun _ w' =>
   Upd (fun b=>b=row) w w'∧blk w' row=some ((ks.map u32V++rest).toArray,60,fr):=by
 have hT:(Tryz.prog.info? 122).map (fun i=>i.desc)=some (.slice 60):=by kernel_rfl
 obtain ⟨iT,hiT,hdT⟩:=Option.map_eq_some_iff.1 hT
 have hE:(Tryz.prog.info? 60).map (fun i=>(i.size,i.hasPointers,i.bytes))=some (1,false,4):=by kernel_rfl
 obtain ⟨iE,hiE,hdE⟩:=Option.map_eq_some_iff.1 hE
 have hE1:iE.size=1:=congrArg (·.1) hdE
 have hE2:iE.hasPointers=false:=congrArg (·.2.1) hdE
 have hE3:iE.bytes=4:=congrArg (·.2.2) hdE
 have hpk:Tryz.prog.packed 122=false:=by kernel_rfl
 have hagg:∀ w,(isAgg 60).run Tryz.prog w = .ok false w:=fun _=>by kernel_rfl
 have hke:∀ w,(Extern.Rtype.kind 60).run Tryz.prog w = .ok 10 w:=fun _=>by kernel_rfl
 by_cases h2:2≤xs.size
 ·have hsK:Lib.swapperK xs.size iE 10=6:=by
   have c:(xs.size == 0)=false:=beq_eq_false_iff_ne.2 (by omega)
   have d:(xs.size == 1)=false:=beq_eq_false_iff_ne.2 (by omega)
   simp [Lib.swapperK,hE2,hE3,c,d]
  have hf : Tryz.prog.funcs.findIdx? (·.name == "internal/reflectlite" ++ ".Swapper$" ++ toString (Lib.swapperK xs.size iE 10)) = some 97 := by rw [hsK];kernel_rfl
  have hless:LessReads Tryz.prog 71 #[.pointer (some ⟨b4,0,none⟩)] u32V ltNat row 0 xs.size w:=by
   intro m os dk hs i j hi hj
   refine calls_bool ?_
   have hrow':blk (Go.Sort.grow (Go.Sort.putRow u32V (Go.Sort.ahead w m) row 0 dk) os) row=some ((dk.toList.map u32V++rest).toArray,60,fr):=by
    rw [blk_putRow hrow]
    simp only [putCells_row xs dk rest hs]
   have hb4':blk (Go.Sort.grow (Go.Sort.putRow u32V (Go.Sort.ahead w m) row 0 dk) os) b4=some y:=(upd_putRow w m row 0 dk os).blk_some hb4 hne
   have at_:∀ t,t < xs.size→((dk.toList.map u32V++rest).toArray)[t]? = some (u32V dk[t]!):=by
    intro t ht
    rw [List.getElem?_toArray,List.getElem?_append_left (by simp;omega),List.getElem?_map,Array.getElem?_toList,Array.getElem?_eq_getElem (by omega),getElem!_pos dk t (by omega)]
    rfl
   exact less_fn (row:=row) (bx:=b4) _ hb4' hy hrow' hi hj (at_ i hi) (at_ j hj)
  have hS:=Any.sort_Slice_sorted sl6 122 60 iT iE hiT hdT hpk hiE 10 hke hE1 hagg u32V (fun _=>rfl) ltNat swo_ltNat 71 _
   (enters_of Tryz.func71 (by kernel_rfl) rfl) row 0 c xs h2 hsz 97 hf true
   (fun args W=>run_callFunc_extern Tryz.func97 (by kernel_rfl) (by kernel_rfl) (by kernel_rfl) (e:=Extern.ReflectliteSwapper.swap true) (by kernel_rfl) args W) w hless (holds_row hrow ht hN) (blk_lt hrow)
  change Calls Tryz.prog 70 _ _ _ at hS
  refine Calls.mono hS ?_
  rintro e w' ⟨rfl,d',n,os,hP,hSo,rfl⟩
  have hd:=sorted_keys hP hSo hp hk
  refine ⟨upd_putRow w n row 0 d' os,?_⟩
  rw [blk_putRow hrow]
  simp only [putCells_row xs d' rest hP.1,hd]
 ·have hf : ∃ f,Tryz.prog.funcs.findIdx? (·.name == "internal/reflectlite" ++ ".Swapper$" ++ toString (Lib.swapperK xs.size iE 10)) = some f := by
   have h01:xs.size=0∨xs.size=1:=by omega
   rcases h01 with h|h
   ·refine ⟨92,?_⟩
    rw [h]
    kernel_rfl
   ·refine ⟨93,?_⟩
    rw [h]
    kernel_rfl
  obtain ⟨f,hf⟩:=hf
  have hS:=Any.sort_Slice_tiny sl6 122 60 iT iE hiT hdT hpk hiE 10 hke (some ⟨row,0,none⟩) xs.size c (by omega) f hf (.func 71) #[] #[.pointer (some ⟨b4,0,none⟩)] w
  change Calls Tryz.prog 70 _ _ _ at hS
  refine Calls.mono hS ?_
  rintro e w' ⟨rfl,os,rfl⟩
  have hd:xs.toList=ks:=sorted_keys (xs:=xs) (d':=xs) ⟨rfl,fun _ _=>rfl,List.Perm.refl _⟩ (fun i j _ h1 h2=>by omega) hp hk
  refine ⟨(upd_grow w os).upd,?_⟩
  rw [(upd_grow w os).blk (blk_lt hrow) (fun h=>h),hrow,hd]
end Ms

namespace Ms
open Go.World renaming size_alloc → qI
open Ms renaming size_wr → qJ,size_drew → qK,not_noB → qL
open W renaming seqF → qA,seq → qB,regF → qC,condK → qD,block → qE,skip → qF,ret → qG,exit → qH
set_option maxRecDepth 4000
open Go Go.Proofs Go.Shelf
attribute [local congr] W_congr WPsq_congr WPp_congr optK_congr addrK_congr intK_congr boolK_congr sliceK_congr tupleK_congr funcK_congr Fn_congr rawK_congr takeK_congr stepK_congr convK_congr aggK_congr

end Ms

namespace Ms
set_option maxRecDepth 4000
open Go Go.Proofs Go.Shelf
attribute [local congr] W_congr WPsq_congr WPp_congr optK_congr addrK_congr intK_congr boolK_congr sliceK_congr tupleK_congr funcK_congr Fn_congr rawK_congr takeK_congr stepK_congr convK_congr aggK_congr

end Ms

namespace Ms
open Go
theorem All2.nil {α β:Type} {R:α→β→Prop}:All2 R [] []:=⟨rfl,fun i h=>by simp at h⟩
theorem All2.cons {α β:Type} {R:α→β→Prop} {x:α} {y:β} {xs:List α} {ys:List β} (h:R x y) (t:All2 R xs ys):All2 R (x :: xs) (y :: ys):=by
 refine ⟨by simp [t.1],fun i h1 h2 => ?_⟩
 cases i with
 | zero=>exact h
 | succ i=>exact t.2 i (by simpa using h1) (by simpa using h2)
theorem FldsV.litO {ok:Blocks} {w:World} {b:Nat} {fr:Nat × Nat} {T:TypeId} {fs:List Fld} {css:List (List Value)} (hok:ok b) (h:blk w b=some (css.flatten.toArray,T,fr)) (hl:∀ cs∈css,cs.length=8) (ha:All2 (FldC ok w) fs css) :
  FldsV ok w (.slice (some ⟨b,0,none⟩) fs.length fs.length) fs:=by
 refine ⟨css,⟨some ⟨b,0,none⟩,fs.length,by rw [ha.1],by rw [ha.1];exact Nat.le_refl _,hl,.inr ⟨_,rfl,rfl,hok,_,h,fun i hi => ?_⟩⟩,ha⟩
 simp only [Nat.zero_add,List.getElem?_toArray]
theorem FldsV.none (ok:Blocks) (w:World):FldsV ok w (.slice none 0 0) []:=⟨[],⟨_,0,rfl,Nat.le_refl _,by simp,.inl rfl⟩,rfl,fun i h=>by simp at h⟩
theorem FldsV.stay {ok':Blocks} {B n:Nat} {w w':World} {v:Value} {l:List Fld} (h:FldsV (fun b=>n≤b) w v l) (u:Upd (fun b=>b=B) w w') (hn:B < n) (hB:∀ b,n≤b→ok' b):FldsV ok' w' v l :=
 (h.keep (u.keeps fun b _ hk e=>by omega)).weaken fun b _ hk=>hB b hk
abbrev P8 : List (Nat × Nat):=[(0,1),(1,1),(2,1),(3,1),(4,1),(5,1),(6,1),(7,1)]
theorem P8_get : ∀ i,i < 8→P8[i]? = some (i,1):=by decide
def fillN : List Value→List (Nat × Value)→Option (Array Value)
 | ds,[]=>some ds.toArray
 | ds,(i,v) :: ps=>if flat v=true∧i < 8 then fillN (ds.set i v) ps else fillL P8 ds.toArray ((i,v) :: ps)
theorem fillN_eq : ∀ (ps:List (Nat × Value)) (ds:List Value),ds.length=8→fillL P8 ds.toArray ps=fillN ds ps
 | [],_,_=>rfl
 | (i,v) :: ps,ds,h=>by
  rw [fillN]
  split
  ·rename_i hc
   have hv:v.cells=#[v]:=by
    have:=hc.1
    cases v<;>first|rfl|(simp [flat] at this)
   rw [← fillN_eq ps (ds.set i v) (by simpa using h)]
   rw [fillL,P8_get i hc.2]
   simp only [hv,List.size_toArray,List.length_cons,List.length_nil,Nat.zero_add,h,true_and]
   rw [if_pos (by omega)]
   simp [wrArr]
  ·rfl
theorem fill_fld (d0 d1 d2 d3 d4 d5 d6 d7:Value) (ps:List (Nat × Value)):fillL [(0,1),(1,1),(2,1),(3,1),(4,1),(5,1),(6,1),(7,1)] #[d0,d1,d2,d3,d4,d5,d6,d7] ps=fillN [d0,d1,d2,d3,d4,d5,d6,d7] ps:=fillN_eq ps _ rfl
theorem fillN_nil (ds:List Value):fillN ds [] = some ds.toArray:=nr rfl
theorem fillN_int (ds:List Value) (i:Nat) (k:IntKind) (n:Int) (ps:List (Nat × Value)):fillN ds ((i,.int k n) :: ps)=if i < 8 then fillN (ds.set i (.int k n)) ps else fillL P8 ds.toArray ((i,.int k n) :: ps):=by
 rw [fillN];simp [flat]
theorem fillN_slice (ds:List Value) (i:Nat) (a:Option Addr) (n c:Nat) (ps:List (Nat × Value)):fillN ds ((i,.slice a n c) :: ps)=if i < 8 then fillN (ds.set i (.slice a n c)) ps else fillL P8 ds.toArray ((i,.slice a n c) :: ps):=by
 rw [fillN];simp [flat]
end Ms

namespace Ms
set_option maxRecDepth 4000
end Ms

namespace Ms
open Go

theorem RepS.inv {d:Nat} {fs:List Fld} {ok:Blocks} {w:World} {t:Tree} {cs:List Value} (h:RepS true (d+1) fs ok w t cs) :
  ∃ c v,cs=c++[v]∧RepL (RepS true d) (szS true d) ok w t fs 0 c∧TagsM ok w v t.u:=by
 obtain ⟨c,m,h1,h2,h3⟩:=h
 rw [if_pos rfl] at h3
 obtain ⟨v,rfl,h4⟩:=h3
 exact ⟨c,v,h1,h2,h4⟩
theorem Fit1.text {P:List Fld→Tree→Prop} {k:Int} {sub:List Fld} {t:Tree} (h:Fit1 P k sub t) (hk:k=8∨k=9):t.s.length≤32767:=h.1 hk

def FitWF (P:List Fld→Tree→Prop) (v:Int) (f:Fld) (t:Tree):Prop :=
 (t.null=nullS f v t∨(f.null < 0∧(f.kind=9∨f.kind=11)∧t.null=true∧t.s=[]∧t.l=[]))∧(if f.kind=11 then t.l.length≤32767∧∀ x∈t.l,Fit1 P f.of f.sub x else Fit1 P f.kind f.sub t)
theorem nullS_neg {f:Fld} {v:Int} {t:Tree} (h:f.null < 0):nullS f v t=false:=by
 unfold nullS
 have:decide (f.null ≥ 0)=false:=by simp;omega
 rw [this];simp
section
variable {P : List Fld→Tree→Prop} {V:Int} {f:Fld} {t:Tree} (h:FitWF P V f t)
include h
theorem FitWF.list (hk:f.kind=11):t.l.length≤32767∧∀ x∈t.l,Fit1 P f.of f.sub x:=by
 have:=h.2;rw [if_pos hk] at this;exact this
theorem FitWF.one (hk:f.kind≠11):Fit1 P f.kind f.sub t:=by
 have:=h.2;rw [if_neg hk] at this;exact this
theorem FitWF.text (hk:f.kind=8∨f.kind=9):t.s.length≤32767:=(h.one (by omega)).1 hk
theorem FitWF.empty (hn:f.null < 0) (ht:t.null=true):t.s=[]∧t.l=[]:=by
 rcases h.1 with h1|h1
 ·rw [nullS_neg hn,ht] at h1;cases h1
 ·exact h1.2.2.2
end
def plainL (pt:List Fld→Int→Bool→Tree→List UInt8) (v:Int) (flex:Bool) (t:Tree):List Fld→Nat→List UInt8
 | [],_=>[]
 | f :: fs,i=>(if f.tag < 0∧hasS f v=true then fieldS pt f v flex (t.at i) else [])++plainL pt v flex t fs (i+1)
theorem plainL_eq (pt:List Fld→Int→Bool→Tree→List UInt8) (v:Int) (flex:Bool) (t:Tree):∀ (fs:List Fld) (i:Nat),(fs.zipIdx i).flatMap (fun (f,i)=>if f.tag < 0∧hasS f v=true then fieldS pt f v flex (t.at i) else [])=plainL pt v flex t fs i
 | [],_=>rfl
 | f :: fs,i=>by
  rw [List.zipIdx_cons,List.flatMap_cons,plainL_eq pt v flex t fs (i+1)];rfl
theorem plainS_L (pt:List Fld→Int→Bool→Tree→List UInt8) (fs:List Fld) (v:Int) (flex:Bool) (t:Tree):plainS pt fs v flex t=plainL pt v flex t fs 0:=plainL_eq pt v flex t fs 0
theorem hasS_t {f:Fld} {v:Int} (h1:f.fr≤v) (h2:f.to < 0∨v≤f.to):hasS f v=true:=by
 unfold hasS;simp only [Bool.and_eq_true,Bool.or_eq_true,decide_eq_true_eq];exact ⟨h1,h2⟩
theorem hasS_f {f:Fld} {v:Int} (h:v < f.fr∨(0≤f.to∧f.to < v)):hasS f v=false:=by
 unfold hasS;simp only [Bool.and_eq_false_iff,Bool.or_eq_false_iff,decide_eq_false_iff_not]
 rcases h with h|h
 ·exact .inl (by omega)
 ·exact .inr ⟨by omega,by omega⟩
section
variable {P : List Fld→Tree→Prop} {pt:List Fld→Int→Bool→Tree→List UInt8} {v:Int} {f:Fld} {t:Tree}
theorem counted_some {flex:Bool} (n k:Nat):countedS flex false n k=if flex=true then uvarS (n+1) else fixedS n k:=by
 unfold countedS
 cases flex<;>simp
theorem counted_none {flex:Bool} (n k:Nat):countedS flex true n k=if flex=true then [0] else fixedS (-1) k:=by
 unfold countedS
 cases flex<;>simp
section
variable (h : FitWF P v f t)
include h
end
end


theorem get_mid {pre xs post:List Value} {j:Nat} (hj:j < xs.length):(pre++(xs++post))[pre.length+j]? = xs[j]?:=by
 rw [List.getElem?_append_right (by omega),Nat.add_sub_cancel_left,List.getElem?_append_left hj]

abbrev St := Option (List UInt8)
def stLen (st:St):Nat:=(st.getD []).length
def rdN (n:Nat) (st:St):List UInt8 × St :=
 match st with
 | some s=>if n≤s.length then (s.take n,some (s.drop n)) else ([],none)
 | none=>([],none)
def beN (s:List UInt8):Nat:=s.foldl (fun a b=>a * 256+b.toNat) 0
def rdInt (k:IntKind) (n:Nat) (st:St):Int × St:=(k.wrap (beN (rdN n st).1),(rdN n st).2)
def uvD : Nat→List UInt8→Option (Nat × List UInt8)
 | _,[]=>none
 | 0,b :: s=>if b.toNat≤15 then some (b.toNat,s) else none
 | k+1,b :: s=>if b.toNat < 128 then some (b.toNat,s) else (uvD k s).map fun x=>(b.toNat % 128+128 * x.1,x.2)
def rdUv (st:St):Nat × St :=
 match st with
 | some s=>match uvD 4 s with
  | some x=>(x.1,some x.2)
  | none=>(0,none)
 | none=>(0,none)
def rdSpan (l:Int) (st:St):List UInt8 × St :=
 match st with
 | some s=>if 0≤l∧l≤s.length then (s.take l.toNat,some (s.drop l.toNat)) else ([],none)
 | none=>([],none)
def rdLen (flex:Bool) (k:IntKind) (n:Nat) (st:St):Int × St :=
 if flex=true then (((rdUv st).1:Int) - 1,(rdUv st).2) else rdInt k n st
def rdStr (flex:Bool) (st:St):List UInt8 × St:=rdSpan (rdLen flex .i16 2 st).1 (rdLen flex .i16 2 st).2
def rdNStr (flex:Bool) (st:St):(Bool × List UInt8) × St :=
 if (rdLen flex .i16 2 st).1 < 0 then ((true,[]),(rdLen flex .i16 2 st).2) else ((false,(rdStr flex st).1),(rdStr flex st).2)
def rdOct (flex:Bool) (st:St):List UInt8 × St:=rdSpan (rdLen flex .i32 4 st).1 (rdLen flex .i32 4 st).2
def rdBytes (flex:Bool) (st:St):(Bool × List UInt8) × St :=
 if (rdLen flex .i32 4 st).1 = -1 then ((false,[]),(rdLen flex .i32 4 st).2) else (((rdOct flex st).2.isNone,(rdOct flex st).1),(rdOct flex st).2)
def rdNBytes (flex:Bool) (st:St):(Bool × List UInt8) × St :=
 if (rdLen flex .i32 4 st).1 < 0 then ((true,[]),(rdLen flex .i32 4 st).2) else (((rdOct flex st).2.isNone,(rdOct flex st).1),(rdOct flex st).2)
def rdCnt (flex:Bool) (st:St):Int × St:=if flex=true then (IntKind.i32.wrap (IntKind.i32.wrap (rdUv st).1 - 1),(rdUv st).2) else rdInt .i32 4 st
def rdALen (flex:Bool) (st:St):Int × St :=
 if (stLen (rdCnt flex st).2:Int) < (rdCnt flex st).1 then (0,none) else rdCnt flex st

def tagPut (u:List TagD) (y:TagD):List TagD:=if u.any (fun x=>x.1 == y.1)=true then u.map (fun x=>if x.1=y.1 then y else x) else u++[y]
def rdTag (u:List TagD) (st:St):List TagD × St :=
 (tagPut u ((rdUv st).1,(rdSpan (rdUv (rdUv st).2).1 (rdUv (rdUv st).2).2).1),(rdSpan (rdUv (rdUv st).2).1 (rdUv (rdUv st).2).2).2)
def rdTagsN : Nat→List TagD→St→List TagD × St
 | 0,u,st=>(u,st)
 | n+1,u,st=>rdTagsN n (rdTag u st).1 (rdTag u st).2
def rdTags (st:St):List TagD × St:=rdTagsN (rdUv st).1 [] (rdUv st).2

def Tree.num (n:Int):Tree:=.mk n [] false [] []
def Tree.oct (null:Bool) (s:List UInt8):Tree:=.mk 0 s null [] []
def kindK (k:Int):IntKind:=if k=1 then .i8 else if k=2 then .i16 else if k=3 then .i32 else if k=5 then .u16 else .i64
def rd1 (pt:List Fld→St→Tree × St) (kind:Int) (sub:List Fld) (may flex:Bool) (st:St):Tree × St :=
 if kind=0 then (.num (if beN (rdN 1 st).1=0 then 0 else 1),(rdN 1 st).2)
 else if kind=7 then (.oct false (uuidS (rdSpan 16 st).1),(rdSpan 16 st).2)
 else if kind=8 then (if may=true then (.oct (rdNStr flex st).1.1 (rdNStr flex st).1.2,(rdNStr flex st).2) else (.oct false (rdStr flex st).1,(rdStr flex st).2))
 else if kind=9 then (if may=true then (.oct (rdNBytes flex st).1.1 (rdNBytes flex st).1.2,(rdNBytes flex st).2) else (.oct (rdBytes flex st).1.1 (rdBytes flex st).1.2,(rdBytes flex st).2))
 else if kind=10 then pt sub st
 else (.num (rdInt (kindK kind) (widthS kind) st).1,(rdInt (kindK kind) (widthS kind) st).2)
def rdMany (r:St→Tree × St):Nat→St→List Tree × St
 | 0,st=>([],st)
 | n+1,st=>((r st).1 :: (rdMany r n (r st).2).1,(rdMany r n (r st).2).2)
def mayS (f:Fld) (v:Int):Bool:=decide (0≤f.null) && decide (f.null≤v)
def nilS (f:Fld) (v:Int) (n:Int):Bool:=if 0≤f.null then decide (f.null≤v) && decide (n < 0) else decide (n≤0)
def rdList (f:Fld) (v:Int) (flex:Bool) (r:St→Tree × St) (st:St):Tree × St :=
 (.mk 0 [] (nilS f v (rdALen flex st).1) (rdMany r (rdALen flex st).1.toNat (rdALen flex st).2).1 [],(rdMany r (rdALen flex st).1.toNat (rdALen flex st).2).2)
def rdOpt (r:St→Tree × St) (st:St):Tree × St :=
 if (rdInt .i8 1 st).1 = -1∨(rdInt .i8 1 st).2=none then (.mk 0 [] true [] [],(rdInt .i8 1 st).2) else r (rdInt .i8 1 st).2
def rdF (pt:List Fld→St→Tree × St) (v:Int) (flex:Bool) (f:Fld) (st:St):Tree × St :=
 if f.kind=11 then rdList f v flex (rd1 pt f.of f.sub false flex) st else if f.kind=10∧0≤f.null then rdOpt (pt f.sub) st else rd1 pt f.kind f.sub (mayS f v) flex st
def dfF (dp:List Fld→Tree) (f:Fld):Tree :=
 if f.kind=8 then .oct (decide (0≤f.null)) []
 else if f.kind=7 then .oct false (uuidS [])
 else if f.kind=9 then .oct true []
 else if f.kind=11 then .mk 0 [] true [] []
 else if f.kind=10 then (dp f.sub).setNull (decide (0≤f.null))
 else .num f.df
def dfP : Nat→List Fld→Tree
 | 0,_=>.zero
 | d+1,fs=>.mk 0 [] false (fs.map (dfF (dfP d))) []
def rdL (pt:List Fld→St→Tree × St) (dp:List Fld→Tree) (v:Int) (flex:Bool):List Fld→St→List Tree × St
 | [],st=>([],st)
 | f :: fs,st =>
  if f.tag < 0∧hasS f v=true then ((rdF pt v flex f st).1 :: (rdL pt dp v flex fs (rdF pt v flex f st).2).1,(rdL pt dp v flex fs (rdF pt v flex f st).2).2)
  else (dfF dp f :: (rdL pt dp v flex fs st).1,(rdL pt dp v flex fs st).2)
/-! ### What has run out stays so -/
theorem rdLen_none (flex:Bool) (k:IntKind) (n:Nat):(rdLen flex k n none).2=none:=by unfold rdLen;split<;>rfl
theorem rdStr_none (flex:Bool):(rdStr flex none).2=none:=by unfold rdStr;rw [rdLen_none];rfl
theorem rdOct_none (flex:Bool):(rdOct flex none).2=none:=by unfold rdOct;rw [rdLen_none];rfl
theorem rdNStr_none (flex:Bool):(rdNStr flex none).2=none:=by
 unfold rdNStr
 split
 ·exact rdLen_none _ _ _
 ·exact rdStr_none _
theorem rdBytes_none (flex:Bool):(rdBytes flex none).2=none:=by
 unfold rdBytes
 split
 ·exact rdLen_none _ _ _
 ·exact rdOct_none _
theorem rdNBytes_none (flex:Bool):(rdNBytes flex none).2=none:=by
 unfold rdNBytes
 split
 ·exact rdLen_none _ _ _
 ·exact rdOct_none _
theorem rdCnt_none (flex:Bool):(rdCnt flex none).2=none:=by unfold rdCnt;split<;>rfl
theorem rdALen_none (flex:Bool):(rdALen flex none).2=none:=by
 unfold rdALen
 split
 ·rfl
 ·exact rdCnt_none _
theorem rdMany_none {r:St→Tree × St} (h:(r none).2=none):∀ n,(rdMany r n none).2=none
 | 0=>rfl
 | n+1=>by rw [rdMany,h];exact rdMany_none h n
theorem rd1_none {pt:List Fld→St→Tree × St} (h:∀ sub,(pt sub none).2=none) (kind:Int) (sub:List Fld) (may flex:Bool):(rd1 pt kind sub may flex none).2=none:=by
 unfold rd1
 split
 ·rfl
 ·split
  ·rfl
  ·split
   ·split
    ·exact rdNStr_none _
    ·exact rdStr_none _
   ·split
    ·split
     ·exact rdNBytes_none _
     ·exact rdBytes_none _
    ·split
     ·exact h _
     ·rfl
theorem rdF_none {pt:List Fld→St→Tree × St} (h:∀ sub,(pt sub none).2=none) (v:Int) (flex:Bool) (f:Fld):(rdF pt v flex f none).2=none:=by
 unfold rdF
 split
 ·unfold rdList
  rw [rdALen_none]
  exact rdMany_none (rd1_none h _ _ _ _) _
 ·split
  ·unfold rdOpt;rw [if_pos (.inr rfl)];rfl
  ·exact rd1_none h _ _ _ _
theorem rdL_none {pt:List Fld→St→Tree × St} {dp:List Fld→Tree} (h:∀ sub,(pt sub none).2=none) (v:Int) (flex:Bool):∀ fs,(rdL pt dp v flex fs none).2=none
 | []=>rfl
 | f :: fs=>by
  rw [rdL]
  split
  ·rw [rdF_none h];exact rdL_none h v flex fs
  ·exact rdL_none h v flex fs
end Ms

