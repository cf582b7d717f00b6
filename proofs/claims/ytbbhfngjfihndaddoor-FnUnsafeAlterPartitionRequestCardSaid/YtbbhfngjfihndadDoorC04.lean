/- A part of the proof: see the last text. -/
import Derived.Shelf.GgSortFunc.Insertion
import Derived.Test.YtbbhfngjfihndadDoorC01
import Derived.Test.YtbbhfngjfihndadDoorC02
import Derived.Test.YtbbhfngjfihndadDoorC03
set_option linter.unusedSimpArgs false
set_option linter.unusedVariables false
namespace Ms
open Go Go.ChangeMaps

section
variable {P : Program} {ρ:Regs} {w:World} {K:Regs→World→Prop} {d:Option Nat} {type:TypeId} {pos:String} {after:Array Edge} {guard:Option (Nat × Bool)}
theorem wp_entry {x:Operand} {r bm since:Nat} {seen:Array Nat} {es:Array MapEntry} {clock:Nat} {e:MapEntry} (hx:ev ρ x = .pointer (some ⟨r,0,none⟩))
  (hr:w.heap[r]? = some (.mapIter (some bm) since (seen.push e.born) clock)) (hb:w.heap[bm]? = some (.map es clock)) (he:e∈es.toList) (hn:(es.toList.map (·.born)).Nodup) (hk:K (put ρ d (.tuple #[e.key,e.val])) w) :
  rawK P { dst:=d,op:=.entry x,type:=type,pos:=pos,after:=after,guard:=guard } ρ w K:=by
 refine wp_raw (v:=.tuple #[e.key,e.val]) ?_ hk
 simp only [execOp,hx,Sem.run_bind,run_entry_at w r bm since seen es clock e hr hb he hn,Result.andThen_ok,Sem.run_pure]
end

def keyN (e:MapEntry):Nat:=match e.key with|.int _ n=>n.toNat|_=>0
structure Ranged (es:Array MapEntry) (seen:Array Nat) (xs:List Nat) (l rest:List MapEntry):Prop where
 perm:(l++rest).Perm es.toList
 seen:seen.toList=l.map (·.born)
 keys:xs=l.map keyN
theorem Ranged.start (es:Array MapEntry):Ranged es #[] [] [] es.toList:=⟨List.Perm.refl _,rfl,rfl⟩
theorem mem_leftOf {es:Array MapEntry} {seen:Array Nat} {e:MapEntry} (h:e∈(leftOf es seen).toList):e∈es.toList∧e.born∉seen.toList:=by
 simp only [leftOf,Array.toList_filter,List.mem_filter] at h
 refine ⟨h.1,?_⟩
 have:=h.2
 simp at this
 simpa using this
theorem Ranged.step {es:Array MapEntry} {seen:Array Nat} {xs:List Nat} {l rest:List MapEntry} (h:Ranged es seen xs l rest) {e:MapEntry} (he:e∈(leftOf es seen).toList) :
  ∃ rest',Ranged es (seen.push e.born) (xs++[keyN e]) (l++[e]) rest'∧xs.length < es.size:=by
 obtain ⟨h1,h2⟩:=mem_leftOf he
 rw [h.seen] at h2
 have hm:e∈rest:=by
  rcases List.mem_append.1 (h.perm.mem_iff.2 h1) with h3|h3
  ·exact absurd (List.mem_map.2 ⟨e,h3,rfl⟩) h2
  ·exact h3
 obtain ⟨a,b,rfl⟩:=List.append_of_mem hm
 refine ⟨a++b,⟨?_,by simp [h.seen],by simp [h.keys]⟩,?_⟩
 ·refine List.Perm.trans ?_ h.perm
  rw [List.append_assoc]
  refine List.Perm.append_left l ?_
  show (e :: (a++b)).Perm _
  exact (List.perm_middle).symm
 ·have:=h.perm.length_eq
  have e1:xs.length=l.length:=by rw [h.keys,List.length_map]
  simp only [List.length_append,List.length_cons,Array.length_toList] at this
  omega
theorem Ranged.done {es:Array MapEntry} {seen:Array Nat} {xs:List Nat} {l rest:List MapEntry} (h:Ranged es seen xs l rest) (h0:(leftOf es seen).size=0) (hn:(es.toList.map (·.born)).Nodup):xs.Perm (es.toList.map keyN):=by
 have hr:rest=[]:=by
  cases rest with
  | nil=>rfl
  | cons e rest =>
   exfalso
   have h1:e∈es.toList:=h.perm.mem_iff.1 (by simp)
   have h2:e.born∉seen.toList:=by
    rw [h.seen]
    have hn2:((l++e :: rest).map (·.born)).Nodup:=(h.perm.map _).nodup_iff.2 hn
    rw [List.map_append,List.nodup_append] at hn2
    intro hm
    exact hn2.2.2 _ hm _ (by simp) rfl
   have h3:e∈(leftOf es seen).toList:=by
    simp only [leftOf,Array.toList_filter,List.mem_filter]
    refine ⟨h1,?_⟩
    simpa using h2
   have:(leftOf es seen).toList=[]:=by
    apply List.eq_nil_of_length_eq_zero
    simpa using h0
   rw [this] at h3;simp at h3
 subst hr
 rw [h.keys]
 have:=h.perm.map keyN
 simpa using this
theorem Ranged.len {es:Array MapEntry} {seen:Array Nat} {xs:List Nat} {l rest:List MapEntry} (h:Ranged es seen xs l rest):xs.length≤es.size:=by
 have:=h.perm.length_eq
 have e1:xs.length=l.length:=by rw [h.keys,List.length_map]
 simp only [List.length_append,Array.length_toList] at this
 omega

/-! ### The sort -/
def ltNat (a b:Nat):Bool:=decide (a < b)
theorem swo_ltNat : Go.Sort.SWO ltNat where
 irrefl x:=by simp [ltNat]
 trans x y z h1 h2:=by simp only [ltNat,decide_eq_true_eq] at *;omega
 ntrans x y z h1 h2:=by simp only [ltNat,decide_eq_false_iff_not] at *;omega
def u32V (n:Nat):Value:=.int .u32 n
theorem sorted_keys {xs d':Array Nat} {ks:List Nat} (hp:Go.Sort.PermIn 0 xs.size xs d') (hs:Go.Sort.SortedIn ltNat 0 xs.size d') (hk:xs.toList.Perm ks) (hks:ks.Pairwise (· < ·)):d'.toList=ks:=by
 obtain ⟨hsz,_,hperm⟩:=hp
 have e1:d'.extract 0 xs.size=d':=by rw [← hsz];exact Array.extract_size
 rw [e1,Array.extract_size] at hperm
 refine List.Perm.eq_of_pairwise (le:=fun x y=>x≤y) (fun a b _ _ h1 h2=>Nat.le_antisymm h1 h2) ?_ (hks.imp fun h=>Nat.le_of_lt h) (hperm.trans hk)
 rw [List.pairwise_iff_getElem]
 intro i j hi hj hij
 have hi':i < d'.size:=by simpa using hi
 have hj':j < d'.size:=by simpa using hj
 have:=hs i j (Nat.zero_le _) hij (by omega)
 rw [getElem!_pos d' j hj',getElem!_pos d' i hi'] at this
 simp only [ltNat,decide_eq_false_iff_not] at this
 simp only [Array.getElem_toList];omega

/-! ### Worlds behind the sort -/
theorem blk_mapBlock_ne (w:World) (b g:Nat) (f:Array Value→Array Value) (h:b≠g):(Go.Sort.mapBlock w g f).heap[b]? = w.heap[b]?:=by
 simp only [Go.Sort.mapBlock,Array.getElem?_modify]
 rw [if_neg (Ne.symm h)]
theorem upd_putRow (w:World) (n g off:Nat) (d:Array Nat) (os:Array Obj):Upd (fun b=>b=g) w (Go.Sort.grow (Go.Sort.putRow u32V (Go.Sort.ahead w n) g off d) os):=by
 refine ⟨rfl,rfl,rfl,?_,fun b hb hn => ?_⟩
 ·rw [Go.Sort.size_grow,Go.Sort.size_putRow];show w.heap.size≤_;exact Nat.le_add_right _ _
 ·rw [Go.Sort.heap_grow_old _ _ (by rw [Go.Sort.size_putRow];exact hb)]
  exact blk_mapBlock_ne _ _ _ _ hn
theorem upd_grow (w:World) (os:Array Obj):Ext w (Go.Sort.grow w os):=by
 refine ⟨rfl,rfl,rfl,?_,fun b hb hn=>Go.Sort.heap_grow_old _ _ hb⟩
 rw [Go.Sort.size_grow];exact Nat.le_add_right _ _
theorem blk_putRow {w:World} {g n off:Nat} {d:Array Nat} {os:Array Obj} {x:Blk} (h:blk w g=some x):blk (Go.Sort.grow (Go.Sort.putRow u32V (Go.Sort.ahead w n) g off d) os) g=some (Go.Sort.putCells u32V off d x.1,x.2):=by
 have hlt:=blk_lt h
 have e:(Go.Sort.grow (Go.Sort.putRow u32V (Go.Sort.ahead w n) g off d) os).heap[g]? = (w.heap[g]?).map (Go.Sort.onCells (Go.Sort.putCells u32V off d)):=by
  rw [Go.Sort.heap_grow_old _ _ (by rw [Go.Sort.size_putRow];exact hlt)]
  simp only [Go.Sort.putRow,Go.Sort.mapBlock,Array.getElem?_modify,if_true]
  rfl
 unfold blk at h ⊢
 rw [e]
 cases hh:w.heap[g]? with
 | none=>rw [hh] at h;cases h
 | some o =>
  rw [hh] at h
  cases o<;>first|(simp at h;done)|skip
  simp only [Option.some.injEq] at h
  subst h
  rfl
theorem putCells_row (d0 d:Array Nat) (rest:List Value) (h:d.size=d0.size):Go.Sort.putCells u32V 0 d (d0.toList.map u32V++rest).toArray=(d.toList.map u32V++rest).toArray:=by
 apply Array.ext_getElem?
 intro k
 simp only [Go.Sort.putCells,Array.getElem?_mapIdx,List.getElem?_toArray,Nat.zero_le,true_and,Nat.zero_add,Nat.sub_zero]
 by_cases hk:k < d.size
 ·rw [List.getElem?_append_left (by simp;omega),List.getElem?_append_left (by simpa using hk)]
  simp only [List.getElem?_map,Array.getElem?_toList]
  rw [Array.getElem?_eq_getElem (by omega:k < d0.size),Array.getElem?_eq_getElem hk]
  simp [hk]
 ·rw [List.getElem?_append_right (by simp;omega),List.getElem?_append_right (by simp;omega)]
  simp only [List.length_map,Array.length_toList,h]
  cases rest[k - d0.size]? with
  | none=>rfl
  | some x=>rw [Option.map_some,if_neg (by omega)]
theorem holds_row {w:World} {g:Nat} {d:Array Nat} {rest:List Value} {T:TypeId} {fr:Nat × Nat} {N:Nat} (h:blk w g=some ((d.toList.map u32V++rest).toArray,T,fr)) (ht:thaw fr 0 N=true) (hN:d.size≤N):Go.Sort.Holds u32V w g 0 d:=by
 intro j hj
 refine ⟨?_,?_⟩
 ·rw [cell?_blk,h,Option.bind_some]
  show ((d.toList.map u32V++rest).toArray)[0+j]? = _
  rw [Nat.zero_add,List.getElem?_toArray,List.getElem?_append_left (by simpa using hj),List.getElem?_map,Array.getElem?_toList,Array.getElem?_eq_getElem hj]
  simp [hj]
 ·rw [frozen?_blk h]
  simp only [thaw,Bool.or_eq_true,Nat.ble_eq] at ht
  simp only [Bool.and_eq_false_iff,decide_eq_false_iff_not]
  omega

/-! ### A slice in a box,that grows -/
structure BoxA (E T:TypeId) (B db:Nat) (w:World) (v0:Value) (s:List UInt8) (w':World) (v:Value):Prop where
 own:OwnBy E B w' v s
 box:blk w' db=some (#[v],T,(0,0))
 upd:Upd (fun b=>b=db∨ownB v0 b) w w'
 frame:∀ b,ownB v b→ownB v0 b∨w.heap.size≤b
 ne:¬ ownB v db
theorem BoxA.step {E T:TypeId} {B db:Nat} {w w1 w2:World} {v0 v1 v2:Value} {s add:List UInt8} (h:BoxA E T B db w v0 s w1 v1) (hd:db < w.heap.size) (a:AppR E B w1 v1 s add v2 w2) :
  BoxA E T B db w v0 (s++add) (wr w2 db 0 [v2]) v2∧blk w2 db=some (#[v1],T,(0,0)):=by
 have hz:=h.upd.size
 have hz2:=a.upd.size
 have hb2:blk w2 db=some (#[v1],T,(0,0)):=by rw [blk_of_heap (a.upd.keep db (by omega) h.ne)];exact h.box
 have hne:¬ ownB v2 db:=fun h1=>(a.frame db h1).elim h.ne (fun h=>by omega)
 refine ⟨⟨?_,?_,?_,?_,hne⟩,hb2⟩
 ·exact Own.upd a.own (Upd.wr (S:=fun b=>b=db) (Upd.refl _ _) _ _ (.inr rfl)) fun b hb e=>hne (e ▸ hb)
 ·rw [blk_wr_eq,hb2];rfl
 ·exact (Upd.trans' h.upd a.upd fun b hb ho=>(h.frame b ho).elim .inr (fun h=>by omega)).wr _ _ (.inr (.inl rfl))
 ·intro b hb
  rcases a.frame b hb with h1|h1
  ·exact h.frame b h1
  ·exact .inr (by omega)

section
variable {ok : Blocks} {w:World} {u:List TagD} {es:Array MapEntry} {clock:Nat} (hsz:es.size=u.length) (he:∀ i (h1:i < u.length) (h2:i < es.size),TagE ok w u[i] es[i]∧es[i].born < clock)
include hsz he
theorem tm_keys : es.toList.map keyN=u.map (·.1):=by
 apply List.ext_getElem (by simp [hsz])
 intro i h1 h2
 simp only [List.length_map,Array.length_toList] at h1 h2
 simp only [List.getElem_map,Array.getElem_toList]
 unfold keyN
 rw [(he i h2 h1).1.key]
 simp
theorem tm_old : ∀ x∈es.toList,x.born < clock:=by
 intro x hx
 obtain ⟨i,hi,rfl⟩:=List.getElem_of_mem hx
 simp only [Array.length_toList] at hi
 exact (he i (by omega) hi).2
theorem tm_keysU : KeysU es.toList:=by
 intro x hx
 obtain ⟨i,hi,rfl⟩:=List.getElem_of_mem hx
 simp only [Array.length_toList] at hi
 exact ⟨_,(he i (by omega) hi).1.key⟩
end
theorem tm_nodup {es:Array MapEntry} (h:∀ i j (h1:i < es.size) (h2:j < es.size),es[i].born=es[j].born→i=j):(es.toList.map (·.born)).Nodup:=by
 rw [List.nodup_iff_pairwise_ne,List.pairwise_iff_getElem]
 intro i j hi hj hij heq
 simp only [List.length_map,Array.length_toList] at hi hj
 simp only [List.getElem_map,Array.getElem_toList] at heq
 have:=h i j hi hj heq
 omega
def lenBox (o:Option Blk):Nat :=
 match o with
 | some x=>(match (x.1[0]?:Option Value) with|some (Value.slice _ n _)=>n|_=>0)
 | none=>0
theorem own_ne {B:Nat} {w:World} {E:TypeId} {size n:Nat} {v:Value} {cs:List Value} (h:Own B w E size v n cs) {b:Nat} (hb:∀ x,blk w b=some x→x.2.1≠E):¬ ownB v b:=by
 rcases h.2 with ⟨rfl,_⟩|⟨g,cap,rest,fr,rfl,_,h2,_⟩
 ·rintro ⟨_,_,_,h,_⟩;cases h
 ·rintro ⟨a,n,c,h,rfl⟩
  cases h
  exact hb _ h2 rfl
end Ms

namespace Ms
open Go.World renaming size_alloc → qI
open Ms renaming size_wr → qJ,size_drew → qK,not_noB → qL
open W renaming seqR → qA,seq → qB,regR → qC,condK → qD,block → qE,skip → qF,ret → qG,exit → qH
open Nat renaming reduceEqDiff → n0,reduceAdd → n1,reduceMul → n2,reduceSub → n3,reduceLT → n4,reduceLeDiff → n5
open Int renaming reduceEq → i0,reduceLT → i1,reduceLE → i2,reduceNeg → i3,reduceAdd → i4,reduceSub → i5,reduceMul → i6,reduceToNat → i7
set_option maxRecDepth 4000
open Go Go.Proofs
attribute [local congr] W_congr WPsq_congr WPp_congr optK_congr addrK_congr intK_congr boolK_congr sliceK_congr tupleK_congr funcK_congr Fn_congr rawK_congr takeK_congr stepK_congr convK_congr aggK_congr

theorem tagsT : Tryd.prog.underlying 53=some (.map 48 22):=by kernel_rfl
theorem u32T : Tryd.prog.underlying 48=some (.int .u32):=by kernel_rfl

theorem TagsSet_none {tb to:Nat} {x:Blk} (w:World) (hb:blk w tb=some x) (hm:x.1[to]? = some (.map none)) (hth:thaw x.2.2 to 1=true) (k:Nat) (vv:Value) :
  Fn Tryd.prog 49 #[.pointer (some ⟨tb,to,none⟩),.int .u32 k,vv] w fun _ w' =>
   w'=Go.ChangeMaps.setBlock (wr (w.alloc (.map #[] 0)) tb to [.map (some w.heap.size)]) w.heap.size (.map #[{ key:=.int .u32 k,val:=vv,born:=0 }] 1):=by
 have hlt:to+1≤x.1.size:=(Array.getElem?_eq_some_iff.1 hm).1
 have hbl:=blk_lt hb
 have hb1:blk (w.alloc (.map #[] 0)) tb=some x:=blk_alloc_old hbl ▸ hb
 refine fn_of_W Tryd.func49 rfl Tryd.results49 Tryd.ntmps49 rfl ?_
 repeat ((first|refine qA rfl ?_|apply qB|refine qC rfl ?_|apply qD|apply qE|apply qF|apply qG|apply qH);try simp (disch:=(first|omega|(simp only [qI,qJ,qK]<;>omega)|exact qL _)) only [go_sem,↓reduceIte,n0,reduceCtorEq,n1,n2,n3,n4,n5,i0,i1,i2,i3,i4,i5,i6,i7,hb,hm])
 refine wp_makeMap ?_
 simp (disch:=(first|omega|(simp only [qI,qJ,qK]<;>omega)|exact qL _)) only [go_sem,↓reduceIte,n0,reduceCtorEq,n1,n2,n3,n4,n5,i0,i1,i2,i3,i4,i5,i6,i7,hb,hm,hb1,hth,hlt]
 have hg:((Array.setIfInBounds x.1 to (.map (some w.heap.size))))[to]? = some (.map (some w.heap.size)):=by simp [Nat.lt_of_succ_le hlt]
 have hh:(wr (w.alloc (.map #[] 0)) tb to [.map (some w.heap.size)]).heap[w.heap.size]? = some (.map #[] 0):=by
  rw [heap_wr_ne (by omega)]
  show (w.heap.push (.map #[] 0))[w.heap.size]? = _
  simp
 repeat ((first|refine qA rfl ?_|apply qB|refine qC rfl ?_|apply qD|apply qE|apply qF|apply qG|apply qH);try simp (disch:=(first|omega|(simp only [qI,qJ,qK]<;>omega)|exact qL _)) only [go_sem,↓reduceIte,n0,reduceCtorEq,n1,n2,n3,n4,n5,i0,i1,i2,i3,i4,i5,i6,i7,hb,hm,hb1,hth,hg])
 refine wp_mapUpdate (n:=(k:Int)) (v:=vv) tagsT u32T (by simp (disch:=(first|omega|(simp only [qI,qJ,qK]<;>omega)|exact qL _)) only [go_sem,↓reduceIte,n0,reduceCtorEq,n1,n2,n3,n4,n5,i0,i1,i2,i3,i4,i5,i6,i7]) (by simp (disch:=(first|omega|(simp only [qI,qJ,qK]<;>omega)|exact qL _)) only [go_sem,↓reduceIte,n0,reduceCtorEq,n1,n2,n3,n4,n5,i0,i1,i2,i3,i4,i5,i6,i7]) (by simp (disch:=(first|omega|(simp only [qI,qJ,qK]<;>omega)|exact qL _)) only [go_sem,↓reduceIte,n0,reduceCtorEq,n1,n2,n3,n4,n5,i0,i1,i2,i3,i4,i5,i6,i7]) hh (by simp [KeysU]) (by simp) ?_
 simp (disch:=(first|omega|(simp only [qI,qJ,qK]<;>omega)|exact qL _)) only [go_sem,↓reduceIte,n0,reduceCtorEq,n1,n2,n3,n4,n5,i0,i1,i2,i3,i4,i5,i6,i7]
 repeat ((first|refine qA rfl ?_|apply qB|refine qC rfl ?_|apply qD|apply qE|apply qF|apply qG|apply qH);try simp (disch:=(first|omega|(simp only [qI,qJ,qK]<;>omega)|exact qL _)) only [go_sem,↓reduceIte,n0,reduceCtorEq,n1,n2,n3,n4,n5,i0,i1,i2,i3,i4,i5,i6,i7])
 rfl
theorem TagsSet_some {tb to r clock:Nat} {x:Blk} {es:Array MapEntry} (w:World) (hb:blk w tb=some x) (hm:x.1[to]? = some (.map (some r))) (hr:w.heap[r]? = some (.map es clock)) (k:Nat) (vv:Value) (h1:KeysU es.toList) (h2:∀ e∈es.toList,e.key≠.int .u32 k) :
  Fn Tryd.prog 49 #[.pointer (some ⟨tb,to,none⟩),.int .u32 k,vv] w fun _ w' =>
   w'=Go.ChangeMaps.setBlock w r (.map (es.push { key:=.int .u32 k,val:=vv,born:=clock }) (clock+1)):=by
 refine fn_of_W Tryd.func49 rfl Tryd.results49 Tryd.ntmps49 rfl ?_
 repeat ((first|refine qA rfl ?_|apply qB|refine qC rfl ?_|apply qD|apply qE|apply qF|apply qG|apply qH);try simp (disch:=(first|omega|(simp only [qI,qJ,qK]<;>omega)|exact qL _)) only [go_sem,↓reduceIte,n0,reduceCtorEq,n1,n2,n3,n4,n5,i0,i1,i2,i3,i4,i5,i6,i7,hb,hm])
 refine wp_mapUpdate (n:=(k:Int)) (v:=vv) tagsT u32T (by simp (disch:=(first|omega|(simp only [qI,qJ,qK]<;>omega)|exact qL _)) only [go_sem,↓reduceIte,n0,reduceCtorEq,n1,n2,n3,n4,n5,i0,i1,i2,i3,i4,i5,i6,i7]) (by simp (disch:=(first|omega|(simp only [qI,qJ,qK]<;>omega)|exact qL _)) only [go_sem,↓reduceIte,n0,reduceCtorEq,n1,n2,n3,n4,n5,i0,i1,i2,i3,i4,i5,i6,i7]) (by simp (disch:=(first|omega|(simp only [qI,qJ,qK]<;>omega)|exact qL _)) only [go_sem,↓reduceIte,n0,reduceCtorEq,n1,n2,n3,n4,n5,i0,i1,i2,i3,i4,i5,i6,i7]) hr h1 h2 ?_
 simp (disch:=(first|omega|(simp only [qI,qJ,qK]<;>omega)|exact qL _)) only [go_sem,↓reduceIte,n0,reduceCtorEq,n1,n2,n3,n4,n5,i0,i1,i2,i3,i4,i5,i6,i7]
 repeat ((first|refine qA rfl ?_|apply qB|refine qC rfl ?_|apply qD|apply qE|apply qF|apply qG|apply qH);try simp (disch:=(first|omega|(simp only [qI,qJ,qK]<;>omega)|exact qL _)) only [go_sem,↓reduceIte,n0,reduceCtorEq,n1,n2,n3,n4,n5,i0,i1,i2,i3,i4,i5,i6,i7])

theorem less_fn {row rc bx n i j a b:Nat} {y x:Blk} (w:World) (hbx:blk w bx=some y) (hy:y.1[0]? = some (.slice (some ⟨row,0,none⟩) n rc)) (hx:blk w row=some x) (hi:i < n) (hj:j < n) (ha:x.1[i]? = some (u32V a)) (hb:x.1[j]? = some (u32V b)) :
  Fn Tryd.prog 42 #[.int .i64 i,.int .i64 j,.pointer (some ⟨bx,0,none⟩)] w fun r w'=>r = .bool (ltNat a b)∧w'=w.drew:=by
 have hlt:decide ((a:Int) < (b:Int))=ltNat a b:=by unfold ltNat;congr 1;exact propext (by omega)
 unfold u32V at ha hb
 have hl1:=blk_lt hbx
 have hl2:=blk_lt hx
 refine fn_of_W Tryd.func42 rfl Tryd.results42 Tryd.ntmps42 rfl ?_
 repeat ((first|refine qA rfl ?_|apply qB|refine qC rfl ?_|apply qD|apply qE|apply qF|apply qG|apply qH);try simp (disch:=(first|omega|(simp only [qI,qJ,qK]<;>omega)|exact qL _)) only [go_sem,↓reduceIte,n0,reduceCtorEq,n1,n2,n3,n4,n5,i0,i1,i2,i3,i4,i5,i6,i7,hbx,hy,hx,ha,hb])
 refine W.drawR (.take 0 (.take 1 (.take 2 (.take 3 (.take 4 (.take 5 (.take 6 (.take 7 (.take 8 (.only 9 .done)))))))))) NoB mixed (by kernel_rfl) ?_
 simp (disch:=(first|omega|(simp only [qI,qJ,qK]<;>omega)|exact qL _)) only [go_sem,↓reduceIte,n0,reduceCtorEq,n1,n2,n3,n4,n5,i0,i1,i2,i3,i4,i5,i6,i7,hbx,hy,hx,ha,hb,hlt,Int.toNat_natCast,Nat.mul_one]
 refine ⟨Upd.refl _ _,?_⟩
 repeat ((first|refine qA rfl ?_|apply qB|refine qC rfl ?_|apply qD|apply qE|apply qF|apply qG|apply qH);try simp (disch:=(first|omega|(simp only [qI,qJ,qK]<;>omega)|exact qL _)) only [go_sem,↓reduceIte,n0,reduceCtorEq,n1,n2,n3,n4,n5,i0,i1,i2,i3,i4,i5,i6,i7])

end Ms

namespace Ms
open Go Go.ChangeMaps

section
variable {R : List Fld→Rel Tree} {S:List Fld→Nat} {f:Fld} {ok:Blocks} {w:World} {t:Tree} {c:List Value}
theorem RepF_num (h:f.kind=0∨f.kind=1∨f.kind=2∨f.kind=3∨f.kind=4∨f.kind=5):RepF R S f ok w t c↔c=[numC f.kind t.n]:=by
 unfold RepF Rep1
 rw [if_neg (by omega),if_neg (by omega),if_neg (by omega),if_neg (by omega),if_neg (by omega),if_neg (by omega)]
theorem RepF_uuid (h:f.kind=7):RepF R S f ok w t c↔c=(uuidS t.s).map byteV:=by
 unfold RepF Rep1
 rw [if_neg (by omega),if_neg (by omega),if_pos h]
theorem RepF_text (h:f.kind=8) (hn:f.null < 0):RepF R S f ok w t c↔c=[strV t.s]:=by
 unfold RepF Rep1
 rw [if_neg (by omega),if_neg (by omega),if_neg (by omega),if_pos h]
end
section
variable {R : List Fld→Rel Tree} {k:Int} {sub:List Fld} {ok:Blocks} {w:World} {t:Tree} {c:List Value}
theorem Rep1_num (h:k=0∨k=1∨k=2∨k=3∨k=4∨k=5):Rep1 R k sub ok w t c↔c=[numC k t.n]:=by
 unfold Rep1
 rw [if_neg (by omega),if_neg (by omega),if_neg (by omega),if_neg (by omega)]
theorem Rep1_part : Rep1 R 10 sub ok w t c↔R sub ok w t c:=by
 unfold Rep1
 rw [if_neg (by omega),if_neg (by omega),if_neg (by omega),if_pos rfl]
end
theorem RepF.keepS {tg:Bool} {d:Nat} {f:Fld} {ok:Blocks} {w w':World} {t:Tree} {c:List Value} (h:RepF (RepS tg d) (szS tg d) f ok w t c) (k:Keeps ok w w'):RepF (RepS tg d) (szS tg d) f ok w' t c :=
 (RepF_lay f fun _=>RepS_lay tg d f.sub).keep h k
theorem PtrText.shape {ok:Blocks} {w:World} {v:Value} {null:Bool} {s:List UInt8} (h:PtrText ok w v null s):∃ a,v = .pointer a:=by
 unfold PtrText at h
 split at h
 ·exact ⟨_,h⟩
 ·obtain ⟨b,o,x,h,_⟩:=h;exact ⟨_,h⟩
theorem OptBytes.shape {ok:Blocks} {w:World} {v:Value} {null:Bool} {s:List UInt8} (h:OptBytes ok w v null s):∃ a n c,v = .slice a n c:=by
 unfold OptBytes at h
 split at h
 ·exact ⟨_,_,_,h⟩
 ·obtain ⟨a,n,c,h⟩:=h.2;exact ⟨_,_,_,h⟩
theorem OptBytes.some {ok:Blocks} {w:World} {v:Value} {s:List UInt8} (h:OptBytes ok w v false s):BytesV ok w v s:=by
 unfold OptBytes at h
 rw [if_neg (by decide)] at h
 exact h.1
theorem list16 {α:Type} {l:List α} (h:l.length=16):∃ a b c d e f g i j k m n o p q r,l=[a,b,c,d,e,f,g,i,j,k,m,n,o,p,q,r]:=by
 match l,h with
 | [a,b,c,d,e,f,g,i,j,k,m,n,o,p,q,r],_=>exact ⟨a,b,c,d,e,f,g,i,j,k,m,n,o,p,q,r,rfl⟩

/-! ### A map of tags that is filled -/
def TagsG (ok:Blocks) (L:Nat) (w:World) (m:Value) (u:List TagD):Prop :=
 (m = .map none∧u=[])∨∃ r es clock,m = .map (some r)∧L≤r∧w.heap[r]? = some (.map es clock)∧es.size=u.length∧(∀ i (h1:i < u.length) (h2:i < es.size),TagE (fun b=>ok b∧b < L) w u[i] es[i]∧es[i].born < clock) ∧
  (∀ i j (h1:i < es.size) (h2:j < es.size),es[i].born=es[j].born→i=j)
theorem TagsG.start (ok:Blocks) (L:Nat) (w:World):TagsG ok L w (.map none) []:=.inl ⟨rfl,rfl⟩
theorem TagsG.tags {ok ok':Blocks} {L:Nat} {w:World} {m:Value} {u:List TagD} (h:TagsG ok L w m u) (h1:∀ b,b < L→ok b→ok' b) (h2:∀ b,L≤b→ok' b):TagsM ok' w m u:=by
 rcases h with h|⟨r,es,clock,g1,g2,g3,g4,g5,g6⟩
 ·exact .inl h
 ·exact .inr ⟨r,es,clock,g1,h2 r g2,g3,g4,fun i a b=>⟨(g5 i a b).1.weaken fun b _ hk=>h1 b hk.2 hk.1,(g5 i a b).2⟩,g6⟩
theorem TagsG.keep {ok:Blocks} {L:Nat} {w w':World} {m:Value} {u:List TagD} (h:TagsG ok L w m u) (k:∀ b,b < w.heap.size→(ok b∧b < L)∨L≤b→w'.heap[b]? = w.heap[b]?):TagsG ok L w' m u:=by
 rcases h with h|⟨r,es,clock,g1,g2,g3,g4,g5,g6⟩
 ·exact .inl h
 ·exact .inr ⟨r,es,clock,g1,g2,by rw [k r (heap_lt g3) (.inr g2)];exact g3,g4,fun i a b=>⟨(g5 i a b).1.keep fun b hb hk=>k b hb (.inl hk),(g5 i a b).2⟩,g6⟩
theorem TagsG.shape {ok:Blocks} {L:Nat} {w:World} {m:Value} {u:List TagD} (h:TagsG ok L w m u):∃ a,m = .map a:=by
 rcases h with ⟨h,_⟩|⟨r,es,clock,h,_⟩<;>exact ⟨_,h⟩
theorem TagsM.shape {ok:Blocks} {w:World} {m:Value} {u:List TagD} (h:TagsM ok w m u):∃ a,m = .map a:=by
 rcases h with ⟨h,_⟩|⟨r,es,clock,h,_⟩<;>exact ⟨_,h⟩
theorem tagE_push {ok:Blocks} {w:World} {u:List TagD} {es:Array MapEntry} {clock:Nat} (hsz:es.size=u.length) (h:∀ i (h1:i < u.length) (h2:i < es.size),TagE ok w u[i] es[i]∧es[i].born < clock) {y:TagD} {e:MapEntry} (he:TagE ok w y e) (hb:e.born=clock) :
  (es.push e).size=(u++[y]).length∧(∀ i (h1:i < (u++[y]).length) (h2:i < (es.push e).size),TagE ok w (u++[y])[i] (es.push e)[i]∧(es.push e)[i].born < clock+1):=by
 refine ⟨by simp [hsz],fun i h1 h2 => ?_⟩
 simp only [List.length_append,List.length_cons,List.length_nil] at h1
 by_cases hi:i < u.length
 ·rw [List.getElem_append_left hi,Array.getElem_push_lt (by omega)]
  obtain ⟨a,b⟩:=h i hi (by omega)
  exact ⟨a,by omega⟩
 ·have:i=es.size:=by omega
  subst this
  rw [Array.getElem_push_eq,List.getElem_append_right (by omega)]
  simp only [hsz,Nat.sub_self,List.getElem_cons_zero]
  exact ⟨he,by omega⟩
theorem inj_push {es:Array MapEntry} {clock:Nat} (h:∀ i j (h1:i < es.size) (h2:j < es.size),es[i].born=es[j].born→i=j) (hc:∀ i (h1:i < es.size),es[i].born < clock) {e:MapEntry} (hb:e.born=clock) :
  ∀ i j (h1:i < (es.push e).size) (h2:j < (es.push e).size),(es.push e)[i].born=(es.push e)[j].born→i=j:=by
 intro i j h1 h2 he
 simp only [Array.size_push] at h1 h2
 rw [Array.getElem_push,Array.getElem_push] at he
 split at he
 ·rename_i hi
  split at he
  ·rename_i hj;exact h i j hi hj he
  ·have:=hc i hi;omega
 ·split at he
  ·rename_i hj;have:=hc j hj;omega
  ·omega
end Ms
namespace Ms
open Go
theorem RepS.intro {d:Nat} {fs:List Fld} {ok:Blocks} {w:World} {t:Tree} {cs c:List Value} {v:Value} (h:cs=c++[v]) (h1:RepL (RepS true d) (szS true d) ok w t fs 0 c) (h2:TagsM ok w v t.u):RepS true (d+1) fs ok w t cs :=
 ⟨c,[v],h,h1,by rw [if_pos rfl];exact ⟨v,rfl,h2⟩⟩
theorem RepL.nil {R:List Fld→Rel Tree} {S:List Fld→Nat} {ok:Blocks} {w:World} {t:Tree} {i:Nat}:RepL R S ok w t [] i []:=rfl
theorem RepL.cons {R:List Fld→Rel Tree} {S:List Fld→Nat} {ok:Blocks} {w:World} {t:Tree} {f:Fld} {fs:List Fld} {i:Nat} {c rest:List Value} (h:RepF R S f ok w (t.at i) c) (hr:RepL R S ok w t fs (i+1) rest):RepL R S ok w t (f :: fs) i (c++rest) :=
 ⟨c,rest,rfl,h,hr⟩
section
variable {P : List Fld→Tree→Prop} {V:Int} {f:Fld} {t:Tree} (h:FitF P V f t)
include h
theorem FitF.list (hk:f.kind=11):t.l.length≤32767∧∀ x∈t.l,x.null=false∧Fit1 P f.of f.sub x:=by
 have:=h.2;rw [if_pos hk] at this;exact this
theorem FitF.one (hk:f.kind≠11):Fit1 P f.kind f.sub t:=by
 have:=h.2;rw [if_neg hk] at this;exact this
theorem FitF.text (hk:f.kind=8∨f.kind=9):t.s.length≤32767:=(h.one (by omega)).1 hk
end
theorem Lists.len {t:Tree} (h:Lists t):t.l.length≤32767:=by cases h;assumption
theorem Lists.get {t:Tree} (h:Lists t) {i:Nat} (hi:i < t.l.length):Lists t.l[i]:=by
 cases h with
 | mk h1 h2 h3=>exact h3 i hi
theorem Lists.at {t:Tree} (h:Lists t) (i:Nat):Lists (t.at i):=by
 by_cases hi:i < t.l.length
 ·have e:t.at i=t.l[i]:=by simp [Tree.at,hi]
  rw [e];exact h.get hi
 ·have e:t.at i = .zero:=by simp [Tree.at,hi]
  rw [e];exact .mk (by simp) (by simp) (fun i h=>by simp at h)

theorem GrowR.made {α:Type} {R:Rel α} {size:Nat} {ok:Blocks} {B tb:Nat} {w:World} {E:TypeId} {g cap:Nat} {c:Array Value} (h:blk w g=some (c,E,(0,0))) (hc:c.size=cap * size) (hB:B≤g):GrowR R size ok B tb w E (.slice (some ⟨g,0,none⟩) 0 cap) [] :=
 ⟨[],⟨⟨by simp,.inr ⟨g,cap,c.toList,(0,0),by simp,hB,by simpa using h,by simpa using hc,thaw_00 _ _,Nat.zero_le _⟩⟩,by simp [Css]⟩,rfl,fun i h=>by simp at h⟩
theorem GrowR.some {α:Type} {R:Rel α} {size:Nat} {ok:Blocks} {B tb:Nat} {w:World} {E:TypeId} {v:Value} {xs:List α} (h:GrowR R size ok B tb w E v xs) (hv:v≠.slice none 0 0):∃ a n k,v = .slice (some a) n k:=by
 obtain ⟨css,h1,_⟩:=h.ex
 rcases h1.1.2 with ⟨h2,_⟩|⟨g,cap,rest,fr,h2,_⟩
 ·exact absurd h2 hv
 ·exact ⟨_,_,_,h2⟩
end Ms
namespace Ms
abbrev OkS (ok:Blocks) (n:Nat):Blocks:=fun b=>ok b∧b < n
abbrev OkF (ok:Blocks) (n h:Nat):Blocks:=fun b=>OkS ok n b∨h≤b
end Ms
namespace Ms
open Go
theorem TagsG.lt {ok:Blocks} {L:Nat} {w:World} {q:Option Nat} {u:List TagD} (h:TagsG ok L w (.map q) u) {b:Nat} (hq:q=some b):b < w.heap.size∧L≤b:=by
 subst hq
 rcases h with ⟨h,_⟩|⟨r,es,clock,h,g2,g3,_⟩
 ·cases h
 ·cases h;exact ⟨heap_lt g3,g2⟩

section
variable {R : List Fld→Rel Tree} {S:List Fld→Nat} {ok:Blocks} {w:World} {t:Tree} {f:Fld} {fs:List Fld} {i:Nat} {rest:List Value}
theorem RepL.cons1 {v:Value} (h:RepF R S f ok w (t.at i) [v]) (hr:RepL R S ok w t fs (i+1) rest):RepL R S ok w t (f :: fs) i (v :: rest):=⟨[v],rest,rfl,h,hr⟩
theorem RepL.cons16 {x0 x1 x2 x3 x4 x5 x6 x7 x8 x9 x10 x11 x12 x13 x14 x15:Value} (h:RepF R S f ok w (t.at i) [x0,x1,x2,x3,x4,x5,x6,x7,x8,x9,x10,x11,x12,x13,x14,x15]) (hr:RepL R S ok w t fs (i+1) rest) :
  RepL R S ok w t (f :: fs) i (x0 :: x1 :: x2 :: x3 :: x4 :: x5 :: x6 :: x7 :: x8 :: x9 :: x10 :: x11 :: x12 :: x13 :: x14 :: x15 :: rest):=⟨_,rest,rfl,h,hr⟩
end

theorem cellsAt_full {x:Array Value} {n:Nat} (h:x.size=n):cellsAt x 0 n=some (.agg x):=by
 subst h
 rw [cellsAt_ok (by omega),Nat.zero_add,Array.extract_size]
end Ms

namespace Ms
open Nat renaming reduceEqDiff → n0,reduceAdd → n1,reduceMul → n2,reduceSub → n3,reduceLT → n4,reduceLeDiff → n5
open Int renaming reduceEq → i0,reduceLT → i1,reduceLE → i2,reduceNeg → i3,reduceAdd → i4,reduceSub → i5,reduceMul → i6,reduceToNat → i7
set_option maxRecDepth 4000
open Go Go.Proofs Go.Shelf
attribute [local congr] W_congr WPsq_congr WPp_congr optK_congr addrK_congr intK_congr boolK_congr sliceK_congr tupleK_congr funcK_congr Fn_congr rawK_congr takeK_congr stepK_congr convK_congr aggK_congr

theorem TagsSet_fn {okT:Blocks} {L vb o:Nat} {x:Blk} {m:Value} {u:List TagD} (w:World) (hG:TagsG okT L w m u) (hL:L≤w.heap.size) (hvL:vb < L) (hb:blk w vb=some x) (hm:x.1[o]? = some m) (hth:thaw x.2.2 o 1=true)
  (y:TagD) (vv:Value) (hval:BytesV (fun b=>okT b∧b < L) w vv y.2) (hy:y.1 < 2 ^ 32) (hnew:∀ z∈u,z.1≠y.1) (hoT:∀ b,okT b→b≠vb) :
  Fn Tryd.prog 49 #[.pointer (some ⟨vb,o,none⟩),.int .u32 y.1,vv] w fun _ w'=>∃ m',blk w' vb=some (x.1.setIfInBounds o (.map m'),x.2)∧TagsG okT L w' (.map m') (u++[y])∧Upd (fun b=>b=vb∨m = .map (some b)) w w':=by
 have hlt:o < x.1.size:=(Array.getElem?_eq_some_iff.1 hm).1
 rcases hG with ⟨rfl,rfl⟩|⟨r,es,clock,rfl,g2,g3,g4,g5,g6⟩
 ·refine (TagsSet_none w hb hm hth y.1 vv).mono ?_
  rintro _ w' rfl
  have hbl:=blk_lt hb
  have hU1:Upd (fun b=>b=vb∨Value.map none = .map (some b)) w (wr (w.alloc (.map #[] 0)) vb o [.map (some w.heap.size)]):=((Upd.refl _ _).alloc _).wr _ _ (.inr (.inl rfl))
  have hU2:=hU1.setBlock w.heap.size (.map #[{ key:=.int .u32 y.1,val:=vv,born:=0 }] 1) (.inl (Nat.le_refl _))
  have hz:w.heap.size < (wr (w.alloc (.map #[] 0)) vb o [.map (some w.heap.size)]).heap.size:=by rw [size_wr,World.size_alloc];omega
  refine ⟨some w.heap.size,?_,.inr ⟨w.heap.size,_,1,rfl,hL,setBlock_same _ _ _ hz,rfl,fun i h1 h2 => ?_,fun i j h1 h2 _ => ?_⟩,hU2⟩
  ·rw [blk_of_heap (setBlock_ne _ _ _ (by omega)),blk_wr_eq,blk_alloc_old hbl,hb];rfl
  ·simp only [List.nil_append,List.length_cons,List.length_nil] at h1
   obtain rfl:i=0:=by omega
   refine ⟨⟨rfl,hy,hval.keep (hU2.keeps fun b hb hk h => ?_)⟩,Nat.zero_lt_one⟩
   rcases h with h|h
   ·exact hoT b hk.1 h
   ·cases h
  ·have h1':i < 1:=h1
   have h2':j < 1:=h2
   omega
 ·have hKU:=tm_keysU g4 g5
  refine (TagsSet_some w hb hm g3 y.1 vv hKU ?_).mono ?_
  ·intro e he
   obtain ⟨i,hi,rfl⟩:=List.getElem_of_mem he
   simp only [Array.length_toList] at hi
   have:=(g5 i (by omega) hi).1.key
   rw [Array.getElem_toList,this]
   intro h
   simp only [Value.int.injEq,true_and] at h
   exact hnew _ (List.getElem_mem (by omega:i < u.length)) (by omega)
  ·rintro _ w' rfl
   have hU2:Upd (fun b=>b=vb∨Value.map (some r) = .map (some b)) w _:=(Upd.refl _ w).setBlock r (.map (es.push { key:=.int .u32 y.1,val:=vv,born:=clock }) (clock+1)) (.inr (.inr rfl))
   have hkp:Keeps (fun b=>okT b∧b < L) w _:=hU2.keeps fun b hb hk h=>by
    rcases h with h|h
    ·exact hoT b hk.1 h
    ·cases h;have:=hk.2;omega
   have hp:=tagE_push (e:={ key:=.int .u32 y.1,val:=vv,born:=clock }) (y:=y) g4 (fun i h1 h2=>⟨(g5 i h1 h2).1.keep hkp,(g5 i h1 h2).2⟩) ⟨rfl,hy,hval.keep hkp⟩ rfl
   refine ⟨some r,?_,.inr ⟨r,_,clock+1,rfl,g2,setBlock_same _ _ _ (heap_lt g3),hp.1,hp.2,inj_push g6 (fun i h1=>(g5 i (by omega) h1).2) rfl⟩,hU2⟩
   rw [blk_of_heap (setBlock_ne _ _ _ (by omega)),hb]
   have e:x.1.setIfInBounds o (.map (some r))=x.1:=by
    apply Array.ext_getElem?
    intro k
    rw [Array.getElem?_setIfInBounds]
    split
    ·rename_i h;subst h
     exact hm.symm
    ·rfl
   rw [e]

end Ms

namespace Ms
open Go.World renaming size_alloc → qI
open Ms renaming size_wr → qJ,size_drew → qK,not_noB → qL
open W renaming seqR → qA,seq → qB,regR → qC,condK → qD,block → qE,skip → qF,ret → qG,exit → qH
open Nat renaming reduceEqDiff → n0,reduceAdd → n1,reduceMul → n2,reduceSub → n3,reduceLT → n4,reduceLeDiff → n5
open Int renaming reduceEq → i0,reduceLT → i1,reduceLE → i2,reduceNeg → i3,reduceAdd → i4,reduceSub → i5,reduceMul → i6,reduceToNat → i7
set_option maxRecDepth 4000
open Go Go.Proofs Go.Shelf
attribute [local congr] W_congr WPsq_congr WPp_congr optK_congr addrK_congr intK_congr boolK_congr sliceK_congr tupleK_congr funcK_congr Fn_congr rawK_congr takeK_congr stepK_congr convK_congr aggK_congr

theorem version_fn (w:World) (n m:Nat) (hn:n < 256) (hm:m < 1000):Fn Tryd.prog 6 #[.int .u8 n,.int .i64 m] w fun r w'=>r = .int .i64 ((n % (m+1):Nat):Int)∧w'=w:=by
 have e1:IntKind.i64.wrap (n:Int)=n:=i64_wrap (by omega)
 have e2:IntKind.i64.wrap ((m:Int)+1)=(m:Int)+1:=i64_wrap (by omega)
 have e3:¬ ((m:Int)+1=0):=by omega
 have e4:((n:Int).tmod ((m:Int)+1))=((n % (m+1):Nat):Int):=by rw [Int.tmod_eq_emod_of_nonneg (by omega),Int.natCast_emod];rfl
 refine fn_of_W Tryd.func6 rfl Tryd.results6 Tryd.ntmps6 rfl ?_
 repeat ((first|refine qA rfl ?_|apply qB|refine qC rfl ?_|apply qD|apply qE|apply qF|apply qG|apply qH);try simp (disch:=(first|omega|(simp only [qI,qJ,qK]<;>omega)|exact qL _)) only [go_sem,↓reduceIte,n0,reduceCtorEq,n1,n2,n3,n4,n5,i0,i1,i2,i3,i4,i5,i6,i7,e1,e2,e3,e4])
end Ms

namespace Ms
open Go

theorem RepS.inv {d:Nat} {fs:List Fld} {ok:Blocks} {w:World} {t:Tree} {cs:List Value} (h:RepS true (d+1) fs ok w t cs) :
  ∃ c v,cs=c++[v]∧RepL (RepS true d) (szS true d) ok w t fs 0 c∧TagsM ok w v t.u:=by
 obtain ⟨c,m,h1,h2,h3⟩:=h
 rw [if_pos rfl] at h3
 obtain ⟨v,rfl,h4⟩:=h3
 exact ⟨c,v,h1,h2,h4⟩
theorem Fit1.text {P:List Fld→Tree→Prop} {k:Int} {sub:List Fld} {t:Tree} (h:Fit1 P k sub t) (hk:k=8∨k=9):t.s.length≤32767:=h.1 hk

def FitWF (P:List Fld→Tree→Prop) (v:Int) (f:Fld) (t:Tree):Prop :=
 (t.null=nullS f v t∨(f.null < 0∧(f.kind=9∨f.kind=11)∧t.null=true∧t.s=[]∧t.l=[]))∧(if f.kind=11 then t.l.length≤32767∧∀ x∈t.l,Fit1 P f.of f.sub x else Fit1 P f.kind f.sub t)
def FitWL (P:List Fld→Tree→Prop) (v:Int) (t:Tree):List Fld→Nat→Prop
 | [],_=>True
 | f :: fs,i=>(hasS f v=true→FitWF P v f (t.at i))∧FitWL P v t fs (i+1)
def FitW (v:Int):Nat→List Fld→Tree→Prop
 | 0,fs,_=>fs=[]
 | d+1,fs,t=>FitWL (FitW v d) v t fs 0∧FitU fs t.u
theorem nullS_neg {f:Fld} {v:Int} {t:Tree} (h:f.null < 0):nullS f v t=false:=by
 unfold nullS
 have:decide (f.null ≥ 0)=false:=by simp;omega
 rw [this];simp
section
variable {P : List Fld→Tree→Prop} {V:Int} {f:Fld} {t:Tree} (h:FitWF P V f t)
include h
theorem FitWF.list (hk:f.kind=11):t.l.length≤32767∧∀ x∈t.l,Fit1 P f.of f.sub x:=by
 have:=h.2;rw [if_pos hk] at this;exact this
theorem FitWF.one (hk:f.kind≠11):Fit1 P f.kind f.sub t:=by
 have:=h.2;rw [if_neg hk] at this;exact this
theorem FitWF.text (hk:f.kind=8∨f.kind=9):t.s.length≤32767:=(h.one (by omega)).1 hk
theorem FitWF.empty (hn:f.null < 0) (ht:t.null=true):t.s=[]∧t.l=[]:=by
 rcases h.1 with h1|h1
 ·rw [nullS_neg hn,ht] at h1;cases h1
 ·exact h1.2.2.2
end
def plainL (pt:List Fld→Int→Bool→Tree→List UInt8) (v:Int) (flex:Bool) (t:Tree):List Fld→Nat→List UInt8
 | [],_=>[]
 | f :: fs,i=>(if f.tag < 0∧hasS f v=true then fieldS pt f v flex (t.at i) else [])++plainL pt v flex t fs (i+1)
theorem hasS_t {f:Fld} {v:Int} (h1:f.fr≤v) (h2:f.to < 0∨v≤f.to):hasS f v=true:=by
 unfold hasS;simp only [Bool.and_eq_true,Bool.or_eq_true,decide_eq_true_eq];exact ⟨h1,h2⟩
theorem hasS_f {f:Fld} {v:Int} (h:v < f.fr∨(0≤f.to∧f.to < v)):hasS f v=false:=by
 unfold hasS;simp only [Bool.and_eq_false_iff,Bool.or_eq_false_iff,decide_eq_false_iff_not]
 rcases h with h|h
 ·exact .inl (by omega)
 ·exact .inr ⟨by omega,by omega⟩
section
variable {P : List Fld→Tree→Prop} {pt:List Fld→Int→Bool→Tree→List UInt8} {v:Int} {f:Fld} {t:Tree}
section
variable (h : FitWF P v f t)
include h
end
end


theorem get_mid {pre xs post:List Value} {j:Nat} (hj:j < xs.length):(pre++(xs++post))[pre.length+j]? = xs[j]?:=by
 rw [List.getElem?_append_right (by omega),Nat.add_sub_cancel_left,List.getElem?_append_left hj]

abbrev St := Option (List UInt8)
def stLen (st:St):Nat:=(st.getD []).length
def rdN (n:Nat) (st:St):List UInt8 × St :=
 match st with
 | some s=>if n≤s.length then (s.take n,some (s.drop n)) else ([],none)
 | none=>([],none)
def beN (s:List UInt8):Nat:=s.foldl (fun a b=>a * 256+b.toNat) 0
def rdInt (k:IntKind) (n:Nat) (st:St):Int × St:=(k.wrap (beN (rdN n st).1),(rdN n st).2)
def uvD : Nat→List UInt8→Option (Nat × List UInt8)
 | _,[]=>none
 | 0,b :: s=>if b.toNat≤15 then some (b.toNat,s) else none
 | k+1,b :: s=>if b.toNat < 128 then some (b.toNat,s) else (uvD k s).map fun x=>(b.toNat % 128+128 * x.1,x.2)
def rdUv (st:St):Nat × St :=
 match st with
 | some s=>match uvD 4 s with
  | some x=>(x.1,some x.2)
  | none=>(0,none)
 | none=>(0,none)
def rdSpan (l:Int) (st:St):List UInt8 × St :=
 match st with
 | some s=>if 0≤l∧l≤s.length then (s.take l.toNat,some (s.drop l.toNat)) else ([],none)
 | none=>([],none)
def rdLen (flex:Bool) (k:IntKind) (n:Nat) (st:St):Int × St :=
 if flex=true then (((rdUv st).1:Int) - 1,(rdUv st).2) else rdInt k n st
def rdStr (flex:Bool) (st:St):List UInt8 × St:=rdSpan (rdLen flex .i16 2 st).1 (rdLen flex .i16 2 st).2
def rdNStr (flex:Bool) (st:St):(Bool × List UInt8) × St :=
 if (rdLen flex .i16 2 st).1 < 0 then ((true,[]),(rdLen flex .i16 2 st).2) else ((false,(rdStr flex st).1),(rdStr flex st).2)
def rdOct (flex:Bool) (st:St):List UInt8 × St:=rdSpan (rdLen flex .i32 4 st).1 (rdLen flex .i32 4 st).2
def rdBytes (flex:Bool) (st:St):(Bool × List UInt8) × St :=
 if (rdLen flex .i32 4 st).1 = -1 then ((false,[]),(rdLen flex .i32 4 st).2) else (((rdOct flex st).2.isNone,(rdOct flex st).1),(rdOct flex st).2)
def rdNBytes (flex:Bool) (st:St):(Bool × List UInt8) × St :=
 if (rdLen flex .i32 4 st).1 < 0 then ((true,[]),(rdLen flex .i32 4 st).2) else (((rdOct flex st).2.isNone,(rdOct flex st).1),(rdOct flex st).2)
def rdCnt (flex:Bool) (st:St):Int × St:=if flex=true then (IntKind.i32.wrap (IntKind.i32.wrap (rdUv st).1 - 1),(rdUv st).2) else rdInt .i32 4 st
def rdALen (flex:Bool) (st:St):Int × St :=
 if (stLen (rdCnt flex st).2:Int) < (rdCnt flex st).1 then (0,none) else rdCnt flex st

def tagPut (u:List TagD) (y:TagD):List TagD:=if u.any (fun x=>x.1 == y.1)=true then u.map (fun x=>if x.1=y.1 then y else x) else u++[y]
def rdTag (u:List TagD) (st:St):List TagD × St :=
 (tagPut u ((rdUv st).1,(rdSpan (rdUv (rdUv st).2).1 (rdUv (rdUv st).2).2).1),(rdSpan (rdUv (rdUv st).2).1 (rdUv (rdUv st).2).2).2)
def rdTagsN : Nat→List TagD→St→List TagD × St
 | 0,u,st=>(u,st)
 | n+1,u,st=>rdTagsN n (rdTag u st).1 (rdTag u st).2
def rdTags (st:St):List TagD × St:=rdTagsN (rdUv st).1 [] (rdUv st).2

def Tree.num (n:Int):Tree:=.mk n [] false [] []
def Tree.oct (null:Bool) (s:List UInt8):Tree:=.mk 0 s null [] []
def kindK (k:Int):IntKind:=if k=1 then .i8 else if k=2 then .i16 else if k=3 then .i32 else if k=5 then .u16 else .i64
def rd1 (pt:List Fld→St→Tree × St) (kind:Int) (sub:List Fld) (may flex:Bool) (st:St):Tree × St :=
 if kind=0 then (.num (if beN (rdN 1 st).1=0 then 0 else 1),(rdN 1 st).2)
 else if kind=7 then (.oct false (uuidS (rdSpan 16 st).1),(rdSpan 16 st).2)
 else if kind=8 then (if may=true then (.oct (rdNStr flex st).1.1 (rdNStr flex st).1.2,(rdNStr flex st).2) else (.oct false (rdStr flex st).1,(rdStr flex st).2))
 else if kind=9 then (if may=true then (.oct (rdNBytes flex st).1.1 (rdNBytes flex st).1.2,(rdNBytes flex st).2) else (.oct (rdBytes flex st).1.1 (rdBytes flex st).1.2,(rdBytes flex st).2))
 else if kind=10 then pt sub st
 else (.num (rdInt (kindK kind) (widthS kind) st).1,(rdInt (kindK kind) (widthS kind) st).2)
def rdMany (r:St→Tree × St):Nat→St→List Tree × St
 | 0,st=>([],st)
 | n+1,st=>((r st).1 :: (rdMany r n (r st).2).1,(rdMany r n (r st).2).2)
def mayS (f:Fld) (v:Int):Bool:=decide (0≤f.null) && decide (f.null≤v)
def nilS (f:Fld) (v:Int) (n:Int):Bool:=if 0≤f.null then decide (f.null≤v) && decide (n < 0) else decide (n≤0)
def rdList (f:Fld) (v:Int) (flex:Bool) (r:St→Tree × St) (st:St):Tree × St :=
 (.mk 0 [] (nilS f v (rdALen flex st).1) (rdMany r (rdALen flex st).1.toNat (rdALen flex st).2).1 [],(rdMany r (rdALen flex st).1.toNat (rdALen flex st).2).2)
def rdF (pt:List Fld→St→Tree × St) (v:Int) (flex:Bool) (f:Fld) (st:St):Tree × St :=
 if f.kind=11 then rdList f v flex (rd1 pt f.of f.sub false flex) st else rd1 pt f.kind f.sub (mayS f v) flex st
def dfF (dp:List Fld→Tree) (f:Fld):Tree :=
 if f.kind=8 then .oct (decide (0≤f.null)) []
 else if f.kind=7 then .oct false (uuidS [])
 else if f.kind=9 then .oct true []
 else if f.kind=11 then .mk 0 [] true [] []
 else if f.kind=10 then (dp f.sub).setNull (decide (0≤f.null))
 else .num f.df
def dfP : Nat→List Fld→Tree
 | 0,_=>.zero
 | d+1,fs=>.mk 0 [] false (fs.map (dfF (dfP d))) []
def rdL (pt:List Fld→St→Tree × St) (dp:List Fld→Tree) (v:Int) (flex:Bool):List Fld→St→List Tree × St
 | [],st=>([],st)
 | f :: fs,st =>
  if f.tag < 0∧hasS f v=true then ((rdF pt v flex f st).1 :: (rdL pt dp v flex fs (rdF pt v flex f st).2).1,(rdL pt dp v flex fs (rdF pt v flex f st).2).2)
  else (dfF dp f :: (rdL pt dp v flex fs st).1,(rdL pt dp v flex fs st).2)
def rdP : Nat→Int→Bool→List Fld→St→Tree × St
 | 0,_,_,_,st=>(.zero,st)
 | d+1,v,flex,fs,st =>
  if flex=true then (.mk 0 [] false (rdL (rdP d v flex) (dfP d) v flex fs st).1 (rdTags (rdL (rdP d v flex) (dfP d) v flex fs st).2).1,(rdTags (rdL (rdP d v flex) (dfP d) v flex fs st).2).2)
  else (.mk 0 [] false (rdL (rdP d v flex) (dfP d) v flex fs st).1 [],(rdL (rdP d v flex) (dfP d) v flex fs st).2)

/-! ### What has run out stays so -/
theorem rdLen_none (flex:Bool) (k:IntKind) (n:Nat):(rdLen flex k n none).2=none:=by unfold rdLen;split<;>rfl
theorem rdStr_none (flex:Bool):(rdStr flex none).2=none:=by unfold rdStr;rw [rdLen_none];rfl
theorem rdOct_none (flex:Bool):(rdOct flex none).2=none:=by unfold rdOct;rw [rdLen_none];rfl
theorem rdNStr_none (flex:Bool):(rdNStr flex none).2=none:=by
 unfold rdNStr
 split
 ·exact rdLen_none _ _ _
 ·exact rdStr_none _
theorem rdBytes_none (flex:Bool):(rdBytes flex none).2=none:=by
 unfold rdBytes
 split
 ·exact rdLen_none _ _ _
 ·exact rdOct_none _
theorem rdNBytes_none (flex:Bool):(rdNBytes flex none).2=none:=by
 unfold rdNBytes
 split
 ·exact rdLen_none _ _ _
 ·exact rdOct_none _
theorem rdCnt_none (flex:Bool):(rdCnt flex none).2=none:=by unfold rdCnt;split<;>rfl
theorem rdALen_none (flex:Bool):(rdALen flex none).2=none:=by
 unfold rdALen
 split
 ·rfl
 ·exact rdCnt_none _
theorem rdMany_none {r:St→Tree × St} (h:(r none).2=none):∀ n,(rdMany r n none).2=none
 | 0=>rfl
 | n+1=>by rw [rdMany,h];exact rdMany_none h n
theorem rdTags_none : (rdTags none).2=none:=rfl
theorem rd1_none {pt:List Fld→St→Tree × St} (h:∀ sub,(pt sub none).2=none) (kind:Int) (sub:List Fld) (may flex:Bool):(rd1 pt kind sub may flex none).2=none:=by
 unfold rd1
 split
 ·rfl
 ·split
  ·rfl
  ·split
   ·split
    ·exact rdNStr_none _
    ·exact rdStr_none _
   ·split
    ·split
     ·exact rdNBytes_none _
     ·exact rdBytes_none _
    ·split
     ·exact h _
     ·rfl
theorem rdF_none {pt:List Fld→St→Tree × St} (h:∀ sub,(pt sub none).2=none) (v:Int) (flex:Bool) (f:Fld):(rdF pt v flex f none).2=none:=by
 unfold rdF
 split
 ·unfold rdList
  rw [rdALen_none]
  exact rdMany_none (rd1_none h _ _ _ _) _
 ·exact rd1_none h _ _ _ _
theorem rdL_none {pt:List Fld→St→Tree × St} {dp:List Fld→Tree} (h:∀ sub,(pt sub none).2=none) (v:Int) (flex:Bool):∀ fs,(rdL pt dp v flex fs none).2=none
 | []=>rfl
 | f :: fs=>by
  rw [rdL]
  split
  ·rw [rdF_none h];exact rdL_none h v flex fs
  ·exact rdL_none h v flex fs
theorem rdP_none (v:Int) (flex:Bool):∀ d fs,(rdP d v flex fs none).2=none
 | 0,_=>rfl
 | d+1,fs=>by
  rw [rdP]
  split
  ·rw [rdL_none (rdP_none v flex d)];exact rdTags_none
  ·exact rdL_none (rdP_none v flex d) v flex fs

theorem bytes_flat : ∀ s:List UInt8,(s.map fun b=>[byteV b]).flatten=s.map byteV
 | []=>rfl
 | b :: s=>by simp only [List.map_cons,List.flatten_cons,bytes_flat s];rfl
theorem BytesV.cells {ok:Blocks} {w:World} {v:Value} {s:List UInt8} (h:BytesV ok w v s) (hs:s≠[]):∃ b o c x,v = .slice (some ⟨b,o,none⟩) s.length c∧s.length≤c∧ok b∧blk w b=some x∧∀ i (hi:i < s.length),x.1[o+i]? = some (.int .u8 s[i].toNat):=by
 obtain ⟨base,c,rfl,hc,h1,h2⟩:=h
 rcases h2 with h2|⟨a,rfl,hsp,hok,x,hx,h3⟩
 ·exact absurd (List.map_eq_nil_iff.1 h2) hs
 ·obtain ⟨b,o,sp⟩:=a
  simp only at hsp;subst hsp
  refine ⟨b,o,c,x,by simp,by simpa using hc,hok,hx,fun i hi => ?_⟩
  have hl:=flatten_len h1
  have:=h3 i (by rw [hl];simpa using hi)
  have h4:=flatten_get h1 i (by simpa using hi) 0 (by omega)
  simp only [Nat.mul_one,Nat.add_zero] at h4
  rw [h4] at this
  simpa [byteV] using this
theorem BytesV.drop {ok:Blocks} {w:World} {a:Option Addr} {n c:Nat} {s:List UInt8} (h:BytesV ok w (.slice a n c) s) (k:Nat) (hk:k≤s.length):BytesV ok w (.slice (slBase a k c 1) (s.length - k) (c - k)) (s.drop k):=by
 obtain ⟨base,c',h0,hc,h1,h2⟩:=h
 cases h0
 simp only [List.length_map] at hc
 refine ⟨slBase a k c 1,c - k,by simp,by rw [List.length_map,List.length_drop];omega,fun cs hm => ?_,?_⟩
 ·obtain ⟨b,_,rfl⟩:=List.mem_map.1 hm;rfl
 ·rcases Nat.lt_or_ge k s.length with hlt|hge
  ·right
   rcases h2 with h2|⟨ad,rfl,hsp,hok,x,hx,h3⟩
   ·rw [List.map_eq_nil_iff.1 h2] at hlt;simp at hlt
   ·obtain ⟨b,o,sp⟩:=ad
    simp only at hsp;subst hsp
    refine ⟨⟨b,o+k,none⟩,?_,rfl,hok,x,hx,fun i hi => ?_⟩
    ·unfold slBase
     rw [if_neg (show ¬ c=k by omega),Option.map_some,Nat.mul_one,add_plain]
    ·rw [bytes_flat] at hi h3 ⊢
     have:=h3 (k+i) (by rw [List.length_map,List.length_drop] at hi;rw [List.length_map];omega)
     simp only [Nat.add_assoc] at this ⊢
     rw [this]
     simp [List.getElem?_drop]
  ·left
   rw [List.drop_of_length_le hge];rfl
theorem BytesV.span {ok:Blocks} {w:World} {a:Option Addr} {n c:Nat} {s:List UInt8} (h:BytesV ok w (.slice a n c) s) (k:Nat) (hk:k≤s.length):BytesV ok w (.slice (slBase a 0 k 1) (k - 0) (k - 0)) (s.take k):=by
 have:=h.take k hk
 obtain ⟨base,c',h0,hc,h1,h2⟩:=this
 simp only [Value.slice.injEq] at h0
 obtain ⟨rfl,h01,rfl⟩:=h0
 refine ⟨slBase a 0 k 1,k - 0,by rw [← h01,Nat.sub_zero],by rw [List.length_map,List.length_take];omega,h1,h2.imp id fun ⟨ad,e,hs⟩ => ?_⟩
 refine ⟨ad,?_,hs⟩
 rw [← e]
 unfold slBase
 cases a with
 | none=>simp
 | some x =>
  obtain ⟨b,o,sp⟩:=x
  have hsp:sp=none:=by
   have h9:=hs.1
   unfold slBase at e
   split at e
   ·simp only [Option.some.injEq] at e;subst e;exact h9
   ·simp only [Option.map_some,Option.some.injEq,Nat.zero_mul] at e
    subst e
    cases sp with
    | none=>rfl
    | some q=>simp [Addr.add] at h9
  subst hsp
  split<;>split<;>simp [add_plain]
theorem slBase_some {a:Option Addr} {l m s:Nat} (h:∃ x,a=some x):∃ x,slBase a l m s=some x:=by
 obtain ⟨x,rfl⟩:=h
 unfold slBase
 split
 ·exact ⟨_,rfl⟩
 ·exact ⟨_,rfl⟩
theorem BytesV.nil (ok:Blocks) (w:World):BytesV ok w (.slice none 0 0) []:=⟨none,0,rfl,Nat.le_refl _,by simp,.inl rfl⟩

structure Rdr (T:TypeId) (ok:Blocks) (w:World) (rb:Nat) (st:St):Prop where
 ex:∃ v,blk w rb=some (#[v,.bool st.isNone],T,(0,0))∧BytesV ok w v (st.getD [])∧(st=none→v = .slice none 0 0)
theorem Rdr.upd {T:TypeId} {ok:Blocks} {w w':World} {rb:Nat} {st:St} {S:Nat→Prop} (h:Rdr T ok w rb st) (u:Upd S w w') (h1:¬ S rb) (h2:∀ b,b < w.heap.size→ok b→¬ S b):Rdr T ok w' rb st:=by
 obtain ⟨v,g1,g2,g3⟩:=h.ex
 exact ⟨v,u.blk_some g1 h1,g2.keep (u.keeps h2),g3⟩
theorem Rdr.lt {T:TypeId} {ok:Blocks} {w:World} {rb:Nat} {st:St} (h:Rdr T ok w rb st):rb < w.heap.size:=by
 obtain ⟨v,g1,_⟩:=h.ex;exact blk_lt g1
theorem Rdr.bad {T:TypeId} {ok:Blocks} {w':World} {rb:Nat} (h:blk w' rb=some (#[.slice none 0 0,.bool true],T,(0,0))):Rdr T ok w' rb none:=⟨_,h,BytesV.nil _ _,fun _=>rfl⟩
theorem Rdr.good {T:TypeId} {ok:Blocks} {w':World} {rb:Nat} {v:Value} {s:List UInt8} (h:blk w' rb=some (#[v,.bool false],T,(0,0))) (hb:BytesV ok w' v s):Rdr T ok w' rb (some s):=⟨_,h,hb,fun h=>by cases h⟩

theorem rdN_few {n:Nat} {st:St} (h:stLen st < n):rdN n st=([],none):=by
 unfold rdN
 cases st with
 | none=>rfl
 | some s=>simp only [stLen,Option.getD_some] at h;simp only;rw [if_neg (by omega)]
theorem rdN_some {n:Nat} {s:List UInt8} (h:n≤s.length):rdN n (some s)=(s.take n,some (s.drop n)):=by
 unfold rdN;simp only;rw [if_pos h]
theorem st_some {n:Nat} {st:St} (h:¬ stLen st < n+1):∃ s,st=some s∧n+1≤s.length:=by
 cases st with
 | none=>exact absurd (by simp [stLen]) h
 | some s=>exact ⟨s,rfl,by simp only [stLen,Option.getD_some] at h;omega⟩

/-! ### Octets put together -/
theorem or_shift {bits k x y:Nat} (hy:y < 2 ^ k) (h:x * 2 ^ k+y < 2 ^ bits):(BitVec.ofInt bits ((y:Nat):Int) ||| BitVec.ofInt bits ((x * 2 ^ k:Nat):Int)).toNat=x * 2 ^ k+y:=by
 rw [BitVec.toNat_or,BitVec.ofInt_natCast,BitVec.ofInt_natCast,BitVec.toNat_ofNat,BitVec.toNat_ofNat,Nat.mod_eq_of_lt (by omega),Nat.mod_eq_of_lt (by omega),Nat.or_comm]
 have:=Nat.shiftLeft_add_eq_or_of_lt hy x
 rw [Nat.shiftLeft_eq] at this
 exact this.symm
theorem beN_4 (a b c d:UInt8):beN [a,b,c,d] = ((a.toNat * 256+b.toNat) * 256+c.toNat) * 256+d.toNat:=by simp [beN]
theorem beN_8 (a b c d e f g h:UInt8):beN [a,b,c,d,e,f,g,h] = ((((((a.toNat * 256+b.toNat) * 256+c.toNat) * 256+d.toNat) * 256+e.toNat) * 256+f.toNat) * 256+g.toNat) * 256+h.toNat:=by simp [beN]
theorem u8_lt (a:UInt8):a.toNat < 256:=a.toNat_lt

theorem jumpQ_goto (l:Nat) (J:Regs→World→Prop) (Q:Exit→Regs→World→Prop) (ρ:Regs) (w:World):jumpQ l J Q (.goto l) ρ w=J ρ w:=by simp [jumpQ]
theorem jumpQ_ret (l:Nat) (J:Regs→World→Prop) (Q:Exit→Regs→World→Prop) (ρ:Regs) (w:World):jumpQ l J Q .ret ρ w=Q .ret ρ w:=nr rfl
theorem jumpQ_normal (l:Nat) (J:Regs→World→Prop) (Q:Exit→Regs→World→Prop) (ρ:Regs) (w:World):jumpQ l J Q .normal ρ w=Q .normal ρ w:=nr rfl
theorem and127_u8 {m:Nat} (h:m < 256):(BitVec.ofInt (kbits .u8) (m:Int) &&& BitVec.ofInt (kbits .u8) 127).toNat=m % 128:=by
 show (BitVec.ofInt 8 (m:Int) &&& BitVec.ofInt 8 127).toNat=m % 128
 rw [BitVec.toNat_and,BitVec.ofInt_natCast,BitVec.toNat_ofNat,Nat.mod_eq_of_lt h]
 exact Nat.and_two_pow_sub_one_eq_mod m 7
set_option maxRecDepth 100000 in
theorem and128F : ∀ y:Fin 256,(BitVec.ofInt 8 ((y.val:Nat):Int) &&& BitVec.ofInt 8 128).toNat=if y.val < 128 then 0 else 128:=by decide
theorem and128_lo {m:Nat} (h:m < 128):(BitVec.ofInt (kbits .u8) (m:Int) &&& BitVec.ofInt (kbits .u8) 128).toNat=0:=(and128F ⟨m,by omega⟩).trans (if_pos h)
theorem and128_hi {m:Nat} (h:¬ m < 128) (h2:m < 256):(BitVec.ofInt (kbits .u8) (m:Int) &&& BitVec.ofInt (kbits .u8) 128).toNat=128:=(and128F ⟨m,h2⟩).trans (if_neg h)

theorem uvD_some {k:Nat} {s:List UInt8} {x:Nat × List UInt8} (h:uvD k s=some x):x.2.length < s.length∧s.drop (s.length - x.2.length)=x.2:=by
 induction k generalizing s x with
 | zero =>
  cases s with
  | nil=>simp [uvD] at h
  | cons b s =>
   simp only [uvD] at h
   split at h
   ·cases h;simp
   ·cases h
 | succ k ih =>
  cases s with
  | nil=>simp [uvD] at h
  | cons b s =>
   simp only [uvD] at h
   split at h
   ·cases h;simp
   ·rw [Option.map_eq_some_iff] at h
    obtain ⟨y,hy,rfl⟩:=h
    obtain ⟨h1,h2⟩:=ih hy
    simp only [List.length_cons]
    refine ⟨by omega,?_⟩
    rw [show s.length+1 - y.2.length=(s.length - y.2.length)+1 by omega,List.drop_succ_cons]
    exact h2
theorem uvD_lt {s:List UInt8} {x:Nat × List UInt8} (h:uvD 4 s=some x):x.1 < 4294967296:=by
 have:∀ (k:Nat) (s:List UInt8) (x:Nat × List UInt8),uvD k s=some x→x.1 < 16 * 128 ^ k:=by
  intro k
  induction k with
  | zero =>
   intro s x h
   cases s with
   | nil=>simp [uvD] at h
   | cons b s =>
    simp only [uvD] at h
    split at h
    ·cases h;simp only;omega
    ·cases h
  | succ k ih =>
   intro s x h
   cases s with
   | nil=>simp [uvD] at h
   | cons b s =>
    simp only [uvD] at h
    have hp:=Nat.two_pow_pos (7 * k)
    have h128:128 ^ k=2 ^ (7 * k):=by rw [Nat.pow_mul]
    split at h
    ·cases h
     rw [Nat.pow_succ,h128];simp only;omega
    ·rw [Option.map_eq_some_iff] at h
     obtain ⟨y,hy,rfl⟩:=h
     have:=ih _ _ hy
     rw [Nat.pow_succ];simp only;omega
 have:=this 4 s x h
 omega
def NN (w:World) (rb:Nat) (st:St):Prop:=st≠none→∃ a n c x,blk w rb=some x∧x.1[0]? = some (.slice (some a) n c)
theorem NN.none (w:World) (rb:Nat):NN w rb none:=fun h=>absurd rfl h
theorem NN.upd {w w':World} {rb:Nat} {st:St} {S:Nat→Prop} (h:NN w rb st) (u:Upd S w w') (h1:¬ S rb):NN w' rb st:=fun h2=>by
 obtain ⟨a,n,c,x,g1,g2⟩:=h h2
 exact ⟨a,n,c,x,u.blk_some g1 h1,g2⟩
def RdQ (T:TypeId) (ok:Blocks) (rb:Nat) (w:World) (val:Value) (st:St) (r:Value) (w':World):Prop:=r=val∧(Rdr T ok w' rb st∧NN w' rb st)∧Upd (fun b=>b=rb) w w'
theorem RdQ.bad {T:TypeId} {ok:Blocks} {rb:Nat} {w:World} {v v1 val:Value} (hb:blk w rb=some (#[v,v1],T,(0,0))):RdQ T ok rb w val none val (wr (wr w rb 1 [.bool true]) rb 0 [.slice none 0 0]):=by
 refine ⟨rfl,⟨Rdr.bad ?_,NN.none _ _⟩,Upd.wr (S:=fun b=>b=rb) (Upd.wr (S:=fun b=>b=rb) (Upd.refl _ _) _ _ (.inr rfl)) _ _ (.inr rfl)⟩
 rw [blk_wr_eq,blk_wr_eq,hb];rfl
theorem RdQ.good {T:TypeId} {ok:Blocks} {rb n c k:Nat} {a:Option Addr} {w w1:World} {val:Value} {s:List UInt8} (hE:Ext w w1) (hb:blk w rb=some (#[.slice a n c,.bool false],T,(0,0))) (hB:BytesV ok w (.slice a n c) s) (hr:¬ ok rb) (hk:k≤s.length) (h0:0 < k) :
  RdQ T ok rb w val (some (s.drop k)) val (wr w1 rb 0 [.slice (slBase a k c 1) (s.length - k) (c - k)]):=by
 have hu:Upd (fun b=>b=rb) w (wr w1 rb 0 [.slice (slBase a k c 1) (s.length - k) (c - k)]):=(hE.mono fun _ h=>h.elim).wr _ _ (.inr rfl)
 have hb2:blk (wr w1 rb 0 [.slice (slBase a k c 1) (s.length - k) (c - k)]) rb=some (#[.slice (slBase a k c 1) (s.length - k) (c - k),.bool false],T,(0,0)):=by
  rw [blk_wr_eq,hE.blk_some hb id];rfl
 refine ⟨rfl,⟨Rdr.good (v:=.slice (slBase a k c 1) (s.length - k) (c - k)) hb2 ((hB.drop k hk).keep (hu.keeps fun b _ hk e=>hr (e ▸ hk))),fun _ => ?_⟩,hu⟩
 obtain ⟨B,o,c',x,hv,_⟩:=hB.cells (by intro h;rw [h] at hk;simp at hk;omega)
 cases hv
 obtain ⟨y,hy⟩:=slBase_some (a:=some ⟨B,o,none⟩) (l:=k) (m:=c) (s:=1) ⟨_,rfl⟩
 exact ⟨y,_,_,_,hb2,by rw [hy];rfl⟩
theorem RdQ.then {T:TypeId} {ok:Blocks} {rb:Nat} {w w1 w2:World} {val' r':Value} {st':St} (h:Upd (fun b=>b=rb) w w1) (h':RdQ T ok rb w1 val' st' r' w2):RdQ T ok rb w val' st' r' w2:=⟨h'.1,h'.2.1,h.trans h'.2.2⟩
theorem RdQ.ext {T:TypeId} {ok:Blocks} {rb:Nat} {w w1 w2:World} {val' r':Value} {st:St} (h:Upd (fun b=>b=rb) w w1) (h1:Rdr T ok w1 rb st∧NN w1 rb st) (e:Ext w1 w2) (hr:r'=val'):RdQ T ok rb w val' st r' w2 :=
 ⟨hr,⟨h1.1.upd e (fun h=>h) (fun _ _ _ h=>h),h1.2.upd e fun h=>h⟩,h.trans (e.mono fun _ h=>h.elim)⟩
def SpanQ (T:TypeId) (ok:Blocks) (rb:Nat) (w:World) (st st':St) (l:Int) (s:List UInt8) (r:Value) (w':World):Prop :=
 BytesV ok w' r s∧(st'=none→r = .slice none 0 0)∧(NN w rb st∨0 < l→st'≠none→∃ a n c,r = .slice (some a) n c)∧Rdr T ok w' rb st'∧(NN w rb st∨0 < l→NN w' rb st')∧Upd (fun b=>b=rb) w w'
theorem SpanQ.bad {T:TypeId} {ok:Blocks} {rb:Nat} {w:World} {st:St} {l:Int} {v v1:Value} (hb:blk w rb=some (#[v,v1],T,(0,0))):SpanQ T ok rb w st none l [] (.slice none 0 0) (wr (wr w rb 1 [.bool true]) rb 0 [.slice none 0 0]):=by
 obtain ⟨_,⟨h1,h2⟩,h3⟩:=RdQ.bad (ok:=ok) (val:=.slice none 0 0) hb
 exact ⟨BytesV.nil _ _,fun _=>rfl,fun _ h=>absurd rfl h,h1,fun _=>h2,h3⟩
theorem SpanQ.good {T:TypeId} {ok:Blocks} {rb n c k:Nat} {a:Option Addr} {w:World} {s:List UInt8} (hb:blk w rb=some (#[.slice a n c,.bool false],T,(0,0))) (hB:BytesV ok w (.slice a n c) s) (hr:¬ ok rb) (hk:k≤s.length) :
  SpanQ T ok rb w (some s) (some (s.drop k)) k (s.take k) (.slice (slBase a 0 k 1) k k) (wr w rb 0 [.slice (slBase a k c 1) (s.length - k) (c - k)]):=by
 have hu:Upd (fun b=>b=rb) w (wr w rb 0 [.slice (slBase a k c 1) (s.length - k) (c - k)]):=(Upd.refl _ _).wr _ _ (.inr rfl)
 have hb2:blk (wr w rb 0 [.slice (slBase a k c 1) (s.length - k) (c - k)]) rb=some (#[.slice (slBase a k c 1) (s.length - k) (c - k),.bool false],T,(0,0)):=by
  rw [blk_wr_eq,hb];rfl
 have hs:NN w rb (some s)∨0 < (k:Int)→∃ y,a=some y:=by
  rintro (h|h)
  ·obtain ⟨y,_,_,x,g1,g2⟩:=h (by simp)
   rw [hb] at g1;cases g1
   simp at g2
   exact ⟨y,g2.1⟩
  ·obtain ⟨B,o,c',x,hv,_⟩:=hB.cells (by intro h0;rw [h0] at hk;simp at hk;omega)
   cases hv;exact ⟨_,rfl⟩
 refine ⟨(hB.span k hk).keep (hu.keeps fun b _ hk e=>hr (e ▸ hk)),(fun h=>by cases h),(fun h _ => ?_),Rdr.good hb2 ((hB.drop k hk).keep (hu.keeps fun b _ hk e=>hr (e ▸ hk))),(fun h _ => ?_),hu⟩
 ·obtain ⟨y,hy⟩:=slBase_some (l:=0) (m:=k) (s:=1) (hs h)
  exact ⟨y,_,_,by rw [hy]⟩
 ·obtain ⟨y,hy⟩:=slBase_some (l:=k) (m:=c) (s:=1) (hs h)
  exact ⟨y,_,_,_,hb2,by rw [hy];rfl⟩
theorem SpanQ.zero {T:TypeId} {ok:Blocks} {rb:Nat} {w:World} (hb:blk w rb=some (#[.slice none 0 0,.bool true],T,(0,0))) :
  SpanQ T ok rb w none none 0 [] (.slice none 0 0) (wr w rb 0 [.slice none 0 0]):=by
 refine ⟨BytesV.nil _ _,fun _=>rfl,fun _ h=>absurd rfl h,Rdr.bad ?_,fun _=>NN.none _ _,(Upd.refl _ _).wr _ _ (.inr rfl)⟩
 rw [blk_wr_eq,hb];rfl
theorem rdSpan_bad {l:Int} {st:St} (h:l < 0∨(stLen st:Int) < l):rdSpan l st=([],none):=by
 unfold rdSpan
 cases st with
 | none=>rfl
 | some s=>simp only [stLen,Option.getD_some] at h;simp only;rw [if_neg (by omega)]
theorem rdSpan_good {k:Nat} {s:List UInt8} (h:k≤s.length):rdSpan (k:Int) (some s)=(s.take k,some (s.drop k)):=by
 unfold rdSpan;simp only;rw [if_pos ⟨by omega,by omega⟩];rfl
theorem rdUv_lt (st:St):(rdUv st).1 < 4294967296:=by
 unfold rdUv
 cases st with
 | none=>simp
 | some s =>
  simp only
  split
  ·rename_i x hx;exact uvD_lt hx
  ·simp
theorem beN_lt : ∀ (s:List UInt8),beN s < 256 ^ s.length:=by
 have:∀ (s:List UInt8) (n:Nat) (k:Nat),n < 256 ^ k→s.foldl (fun a b=>a * 256+b.toNat) n < 256 ^ (k+s.length):=by
  intro s
  induction s with
  | nil=>intro n k h;exact h
  | cons b s ih =>
   intro n k h
   have hb:=u8_lt b
   have:=ih (n * 256+b.toNat) (k+1) (by rw [Nat.pow_succ];omega)
   rw [List.foldl_cons,List.length_cons,show k+(s.length+1)=k+1+s.length by omega]
   exact this
 intro s
 have h:=this s 0 0 (by simp)
 rw [Nat.zero_add] at h
 exact h
theorem beN_take_lt (s:List UInt8) (n:Nat):beN (s.take n) < 256 ^ n :=
 Nat.lt_of_lt_of_le (beN_lt _) (Nat.pow_le_pow_right (by omega) (by simp only [List.length_take];omega))
theorem isNone_some_st (s:List UInt8):(some s:St).isNone=false:=rfl

theorem rdUv_64 (st:St):IntKind.i64.wrap ((rdUv st).1:Int)=((rdUv st).1:Int):=i64_wrap (by have:=rdUv_lt st;omega)
theorem rdUv_641 (st:St):IntKind.i64.wrap (((rdUv st).1:Int) - 1)=((rdUv st).1:Int) - 1:=i64_wrap (by have:=rdUv_lt st;omega)
theorem i32w_64 (n:Int):IntKind.i64.wrap (IntKind.i32.wrap n)=IntKind.i32.wrap n:=by
 have : -2147483648≤IntKind.i32.wrap n∧IntKind.i32.wrap n < 2147483648:=by
  unfold IntKind.wrap;simp [IntKind.bits,IntKind.signed];split<;>omega
 exact i64_wrap (by omega)
theorem rdStr_t (st:St):rdStr true st=rdSpan (((rdUv st).1:Int) - 1) (rdUv st).2:=by simp [rdStr,rdLen]
theorem rdCnt_f (st:St):rdCnt false st=rdInt .i32 4 st:=by simp [rdCnt]
theorem rdCnt_t (st:St):rdCnt true st=(IntKind.i32.wrap (IntKind.i32.wrap (rdUv st).1 - 1),(rdUv st).2):=by simp [rdCnt]
def RdB (T:TypeId) (ok:Blocks) (rb:Nat) (w:World) (st:St) (w':World):Prop:=(Rdr T ok w' rb st∧NN w' rb st)∧Upd (fun b=>b=rb) w w'
def errV (ev:Value) (st:St):Value:=if st.isNone=true then ev else .nilIface

theorem uuidS_idem (s:List UInt8):uuidS (uuidS s)=uuidS s:=by
 have hu:=uuidS_len s
 generalize uuidS s=x at *
 unfold uuidS
 rw [List.take_of_length_le (by omega),hu]
 simp
theorem Rdr.weaken {T:TypeId} {ok ok':Blocks} {w:World} {rb:Nat} {st:St} (h:Rdr T ok w rb st) (k:∀ b,b < w.heap.size→ok b→ok' b):Rdr T ok' w rb st:=by
 obtain ⟨v,g1,g2,g3⟩:=h.ex
 exact ⟨v,g1,g2.weaken k,g3⟩
end Ms

namespace Ms
open Go.World renaming size_alloc → qI
open Ms renaming size_wr → qJ,size_drew → qK,not_noB → qL
open W renaming seqR → qA,seq → qB,regR → qC,condK → qD,block → qE,skip → qF,ret → qG,exit → qH
open Nat renaming reduceEqDiff → n0,reduceAdd → n1,reduceMul → n2,reduceSub → n3,reduceLT → n4,reduceLeDiff → n5
open Int renaming reduceEq → i0,reduceLT → i1,reduceLE → i2,reduceNeg → i3,reduceAdd → i4,reduceSub → i5,reduceMul → i6,reduceToNat → i7
set_option maxRecDepth 4000
open Go Go.Proofs
attribute [local congr] W_congr WPsq_congr WPp_congr optK_congr addrK_congr intK_congr boolK_congr sliceK_congr tupleK_congr funcK_congr Fn_congr rawK_congr takeK_congr stepK_congr convK_congr aggK_congr

theorem BE32_fn {ok:Blocks} (v:Value) (s:List UInt8) (w:World) (h:BytesV ok w v s) (hl:4≤s.length) :
  Fn Tryd.prog 43 #[.agg #[],v] w fun r w'=>r = .int .u32 (beN (s.take 4))∧Ext w w':=by
 obtain ⟨x0,x1,x2,x3,rest,rfl⟩:∃ x0 x1 x2 x3 rest,s=x0 :: x1 :: x2 :: x3 :: rest:=by
  match s,hl with
  | x0 :: x1 :: x2 :: x3 :: rest,_=>exact ⟨x0,x1,x2,x3,rest,rfl⟩
 obtain ⟨B,o,c,x,rfl,hc,hok,hx,hq⟩:=h.cells (by simp)
 have hbe:((beN ((x0 :: x1 :: x2 :: x3 :: rest).take 4):Nat):Int)=(beN [x0,x1,x2,x3]:Nat):=rfl
 rw [hbe,beN_4]
 have q0:x.1[o]? = some (.int .u8 x0.toNat):=hq 0 (by simp)
 have q1:x.1[o+1]? = some (.int .u8 x1.toNat):=hq 1 (by simp)
 have q2:x.1[o+2]? = some (.int .u8 x2.toNat):=hq 2 (by simp)
 have q3:x.1[o+3]? = some (.int .u8 x3.toNat):=hq 3 (by simp)
 clear hq hbe h
 have hp0:=u8_lt x0
 generalize x0.toNat=p0 at *
 have hp1:=u8_lt x1
 generalize x1.toNat=p1 at *
 have hp2:=u8_lt x2
 generalize x2.toNat=p2 at *
 have hp3:=u8_lt x3
 generalize x3.toNat=p3 at *
 have hlt:=blk_lt hx
 have c0:IntKind.u32.wrap ((p0:Int))=(p0:Int):=by unfold IntKind.wrap;simp [IntKind.bits,IntKind.signed];omega
 have c1:IntKind.u32.wrap ((p1:Int))=(p1:Int):=by unfold IntKind.wrap;simp [IntKind.bits,IntKind.signed];omega
 have c2:IntKind.u32.wrap ((p2:Int))=(p2:Int):=by unfold IntKind.wrap;simp [IntKind.bits,IntKind.signed];omega
 have c3:IntKind.u32.wrap ((p3:Int))=(p3:Int):=by unfold IntKind.wrap;simp [IntKind.bits,IntKind.signed];omega
 have s2:IntKind.u32.wrap ((p2:Int) * 2 ^ (min 8 (kbits .u32)))=((p2 * 2 ^ 8:Nat):Int):=by
  rw [show (2:Int) ^ (min 8 (kbits .u32))=256 from rfl,show (2:Nat) ^ 8=256 from rfl];unfold IntKind.wrap;simp [IntKind.bits,IntKind.signed];omega
 have hA2:p3 < 256:=by omega
 have o2:(BitVec.ofInt (kbits .u32) ((p3:Nat):Int) ||| BitVec.ofInt (kbits .u32) ((p2 * 2 ^ 8:Nat):Int)).toNat=p2 * 2 ^ 8+p3:=or_shift (bits:=32) hA2 (by omega)
 obtain ⟨a2,ha2⟩:∃ a,a=p2 * 2 ^ 8+p3:=⟨_,rfl⟩
 rw [← ha2] at o2
 have w2:IntKind.u32.wrap ((a2:Nat):Int)=((a2:Nat):Int):=by unfold IntKind.wrap;simp [IntKind.bits,IntKind.signed];omega
 have s1:IntKind.u32.wrap ((p1:Int) * 2 ^ (min 16 (kbits .u32)))=((p1 * 2 ^ 16:Nat):Int):=by
  rw [show (2:Int) ^ (min 16 (kbits .u32))=65536 from rfl,show (2:Nat) ^ 16=65536 from rfl];unfold IntKind.wrap;simp [IntKind.bits,IntKind.signed];omega
 have hA1:a2 < 65536:=by omega
 have o1:(BitVec.ofInt (kbits .u32) ((a2:Nat):Int) ||| BitVec.ofInt (kbits .u32) ((p1 * 2 ^ 16:Nat):Int)).toNat=p1 * 2 ^ 16+a2:=or_shift (bits:=32) hA1 (by omega)
 obtain ⟨a1,ha1⟩:∃ a,a=p1 * 2 ^ 16+a2:=⟨_,rfl⟩
 rw [← ha1] at o1
 have w1:IntKind.u32.wrap ((a1:Nat):Int)=((a1:Nat):Int):=by unfold IntKind.wrap;simp [IntKind.bits,IntKind.signed];omega
 have s0:IntKind.u32.wrap ((p0:Int) * 2 ^ (min 24 (kbits .u32)))=((p0 * 2 ^ 24:Nat):Int):=by
  rw [show (2:Int) ^ (min 24 (kbits .u32))=16777216 from rfl,show (2:Nat) ^ 24=16777216 from rfl];unfold IntKind.wrap;simp [IntKind.bits,IntKind.signed];omega
 have hA0:a1 < 16777216:=by omega
 have o0:(BitVec.ofInt (kbits .u32) ((a1:Nat):Int) ||| BitVec.ofInt (kbits .u32) ((p0 * 2 ^ 24:Nat):Int)).toNat=p0 * 2 ^ 24+a1:=or_shift (bits:=32) hA0 (by omega)
 obtain ⟨a0,ha0⟩:∃ a,a=p0 * 2 ^ 24+a1:=⟨_,rfl⟩
 rw [← ha0] at o0
 have w0:IntKind.u32.wrap ((a0:Nat):Int)=((a0:Nat):Int):=by unfold IntKind.wrap;simp [IntKind.bits,IntKind.signed];omega
 have hfin:(((p0 * 256+p1) * 256+p2) * 256+p3)=a0:=by omega
 rw [hfin]
 refine fn_of_W Tryd.func43 rfl Tryd.results43 Tryd.ntmps43 rfl ?_
 repeat ((first|refine qA rfl ?_|apply qB|refine qC rfl ?_|apply qD|apply qE|apply qF|apply qG|apply qH);try simp (maxSteps:=1000000)(disch:=(first|omega|(simp only [qI,qJ,qK]<;>omega)|exact qL _)) only [go_sem,↓reduceIte,n0,reduceCtorEq,n1,n2,n3,n4,n5,i0,i1,i2,i3,i4,i5,i6,i7,hx,q0,q1,q2,q3])
 refine W.drawR (.take 0 (.take 1 (.take 2 (.take 3 (.take 4 (.take 5 (.take 6 (.take 7 (.take 8 (.take 9 (.take 10 (.take 11 (.take 12 (.take 13 (.take 14 (.take 15 (.take 16 (.take 17 (.take 18 (.take 19 (.take 20 (.take 21 (.only 22 .done))))))))))))))))))))))) NoB mixed (by kernel_rfl) ?_
 simp (maxSteps:=1000000)(disch:=(first|omega|(simp only [qI,qJ,qK]<;>omega)|exact qL _)) only [go_sem,↓reduceIte,n0,reduceCtorEq,n1,n2,n3,n4,n5,i0,i1,i2,i3,i4,i5,i6,i7,hx,q0,q1,q2,q3,c0,c1,c2,c3,s2,o2,w2,s1,o1,w1,s0,o0,w0]
 refine ⟨Upd.refl _ _,?_⟩
 repeat ((first|refine qA rfl ?_|apply qB|refine qC rfl ?_|apply qD|apply qE|apply qF|apply qG|apply qH);try simp (maxSteps:=1000000)(disch:=(first|omega|(simp only [qI,qJ,qK]<;>omega)|exact qL _)) only [go_sem,↓reduceIte,n0,reduceCtorEq,n1,n2,n3,n4,n5,i0,i1,i2,i3,i4,i5,i6,i7])
 exact (Upd.alloc (Upd.refl _ _) _).drew

theorem BE64_fn {ok:Blocks} (v:Value) (s:List UInt8) (w:World) (h:BytesV ok w v s) (hl:8≤s.length) :
  Fn Tryd.prog 57 #[.agg #[],v] w fun r w'=>r = .int .u64 (beN (s.take 8))∧Ext w w':=by
 obtain ⟨x0,x1,x2,x3,x4,x5,x6,x7,rest,rfl⟩:∃ x0 x1 x2 x3 x4 x5 x6 x7 rest,s=x0 :: x1 :: x2 :: x3 :: x4 :: x5 :: x6 :: x7 :: rest:=by
  match s,hl with
  | x0 :: x1 :: x2 :: x3 :: x4 :: x5 :: x6 :: x7 :: rest,_=>exact ⟨x0,x1,x2,x3,x4,x5,x6,x7,rest,rfl⟩
 obtain ⟨B,o,c,x,rfl,hc,hok,hx,hq⟩:=h.cells (by simp)
 have hbe:((beN ((x0 :: x1 :: x2 :: x3 :: x4 :: x5 :: x6 :: x7 :: rest).take 8):Nat):Int)=(beN [x0,x1,x2,x3,x4,x5,x6,x7]:Nat):=rfl
 rw [hbe,beN_8]
 have q0:x.1[o]? = some (.int .u8 x0.toNat):=hq 0 (by simp)
 have q1:x.1[o+1]? = some (.int .u8 x1.toNat):=hq 1 (by simp)
 have q2:x.1[o+2]? = some (.int .u8 x2.toNat):=hq 2 (by simp)
 have q3:x.1[o+3]? = some (.int .u8 x3.toNat):=hq 3 (by simp)
 have q4:x.1[o+4]? = some (.int .u8 x4.toNat):=hq 4 (by simp)
 have q5:x.1[o+5]? = some (.int .u8 x5.toNat):=hq 5 (by simp)
 have q6:x.1[o+6]? = some (.int .u8 x6.toNat):=hq 6 (by simp)
 have q7:x.1[o+7]? = some (.int .u8 x7.toNat):=hq 7 (by simp)
 clear hq hbe h
 have hp0:=u8_lt x0
 generalize x0.toNat=p0 at *
 have hp1:=u8_lt x1
 generalize x1.toNat=p1 at *
 have hp2:=u8_lt x2
 generalize x2.toNat=p2 at *
 have hp3:=u8_lt x3
 generalize x3.toNat=p3 at *
 have hp4:=u8_lt x4
 generalize x4.toNat=p4 at *
 have hp5:=u8_lt x5
 generalize x5.toNat=p5 at *
 have hp6:=u8_lt x6
 generalize x6.toNat=p6 at *
 have hp7:=u8_lt x7
 generalize x7.toNat=p7 at *
 have hlt:=blk_lt hx
 have c0:IntKind.u64.wrap ((p0:Int))=(p0:Int):=by unfold IntKind.wrap;simp [IntKind.bits,IntKind.signed];omega
 have c1:IntKind.u64.wrap ((p1:Int))=(p1:Int):=by unfold IntKind.wrap;simp [IntKind.bits,IntKind.signed];omega
 have c2:IntKind.u64.wrap ((p2:Int))=(p2:Int):=by unfold IntKind.wrap;simp [IntKind.bits,IntKind.signed];omega
 have c3:IntKind.u64.wrap ((p3:Int))=(p3:Int):=by unfold IntKind.wrap;simp [IntKind.bits,IntKind.signed];omega
 have c4:IntKind.u64.wrap ((p4:Int))=(p4:Int):=by unfold IntKind.wrap;simp [IntKind.bits,IntKind.signed];omega
 have c5:IntKind.u64.wrap ((p5:Int))=(p5:Int):=by unfold IntKind.wrap;simp [IntKind.bits,IntKind.signed];omega
 have c6:IntKind.u64.wrap ((p6:Int))=(p6:Int):=by unfold IntKind.wrap;simp [IntKind.bits,IntKind.signed];omega
 have c7:IntKind.u64.wrap ((p7:Int))=(p7:Int):=by unfold IntKind.wrap;simp [IntKind.bits,IntKind.signed];omega
 have s6:IntKind.u64.wrap ((p6:Int) * 2 ^ (min 8 (kbits .u64)))=((p6 * 2 ^ 8:Nat):Int):=by
  rw [show (2:Int) ^ (min 8 (kbits .u64))=256 from rfl,show (2:Nat) ^ 8=256 from rfl];unfold IntKind.wrap;simp [IntKind.bits,IntKind.signed];omega
 have hA6:p7 < 256:=by omega
 have o6:(BitVec.ofInt (kbits .u64) ((p7:Nat):Int) ||| BitVec.ofInt (kbits .u64) ((p6 * 2 ^ 8:Nat):Int)).toNat=p6 * 2 ^ 8+p7:=or_shift (bits:=64) hA6 (by omega)
 obtain ⟨a6,ha6⟩:∃ a,a=p6 * 2 ^ 8+p7:=⟨_,rfl⟩
 rw [← ha6] at o6
 have w6:IntKind.u64.wrap ((a6:Nat):Int)=((a6:Nat):Int):=by unfold IntKind.wrap;simp [IntKind.bits,IntKind.signed];omega
 have s5:IntKind.u64.wrap ((p5:Int) * 2 ^ (min 16 (kbits .u64)))=((p5 * 2 ^ 16:Nat):Int):=by
  rw [show (2:Int) ^ (min 16 (kbits .u64))=65536 from rfl,show (2:Nat) ^ 16=65536 from rfl];unfold IntKind.wrap;simp [IntKind.bits,IntKind.signed];omega
 have hA5:a6 < 65536:=by omega
 have o5:(BitVec.ofInt (kbits .u64) ((a6:Nat):Int) ||| BitVec.ofInt (kbits .u64) ((p5 * 2 ^ 16:Nat):Int)).toNat=p5 * 2 ^ 16+a6:=or_shift (bits:=64) hA5 (by omega)
 obtain ⟨a5,ha5⟩:∃ a,a=p5 * 2 ^ 16+a6:=⟨_,rfl⟩
 rw [← ha5] at o5
 have w5:IntKind.u64.wrap ((a5:Nat):Int)=((a5:Nat):Int):=by unfold IntKind.wrap;simp [IntKind.bits,IntKind.signed];omega
 have s4:IntKind.u64.wrap ((p4:Int) * 2 ^ (min 24 (kbits .u64)))=((p4 * 2 ^ 24:Nat):Int):=by
  rw [show (2:Int) ^ (min 24 (kbits .u64))=16777216 from rfl,show (2:Nat) ^ 24=16777216 from rfl];unfold IntKind.wrap;simp [IntKind.bits,IntKind.signed];omega
 have hA4:a5 < 16777216:=by omega
 have o4:(BitVec.ofInt (kbits .u64) ((a5:Nat):Int) ||| BitVec.ofInt (kbits .u64) ((p4 * 2 ^ 24:Nat):Int)).toNat=p4 * 2 ^ 24+a5:=or_shift (bits:=64) hA4 (by omega)
 obtain ⟨a4,ha4⟩:∃ a,a=p4 * 2 ^ 24+a5:=⟨_,rfl⟩
 rw [← ha4] at o4
 have w4:IntKind.u64.wrap ((a4:Nat):Int)=((a4:Nat):Int):=by unfold IntKind.wrap;simp [IntKind.bits,IntKind.signed];omega
 have s3:IntKind.u64.wrap ((p3:Int) * 2 ^ (min 32 (kbits .u64)))=((p3 * 2 ^ 32:Nat):Int):=by
  rw [show (2:Int) ^ (min 32 (kbits .u64))=4294967296 from rfl,show (2:Nat) ^ 32=4294967296 from rfl];unfold IntKind.wrap;simp [IntKind.bits,IntKind.signed];omega
 have hA3:a4 < 4294967296:=by omega
 have o3:(BitVec.ofInt (kbits .u64) ((a4:Nat):Int) ||| BitVec.ofInt (kbits .u64) ((p3 * 2 ^ 32:Nat):Int)).toNat=p3 * 2 ^ 32+a4:=or_shift (bits:=64) hA3 (by omega)
 obtain ⟨a3,ha3⟩:∃ a,a=p3 * 2 ^ 32+a4:=⟨_,rfl⟩
 rw [← ha3] at o3
 have w3:IntKind.u64.wrap ((a3:Nat):Int)=((a3:Nat):Int):=by unfold IntKind.wrap;simp [IntKind.bits,IntKind.signed];omega
 have s2:IntKind.u64.wrap ((p2:Int) * 2 ^ (min 40 (kbits .u64)))=((p2 * 2 ^ 40:Nat):Int):=by
  rw [show (2:Int) ^ (min 40 (kbits .u64))=1099511627776 from rfl,show (2:Nat) ^ 40=1099511627776 from rfl];unfold IntKind.wrap;simp [IntKind.bits,IntKind.signed];omega
 have hA2:a3 < 1099511627776:=by omega
 have o2:(BitVec.ofInt (kbits .u64) ((a3:Nat):Int) ||| BitVec.ofInt (kbits .u64) ((p2 * 2 ^ 40:Nat):Int)).toNat=p2 * 2 ^ 40+a3:=or_shift (bits:=64) hA2 (by omega)
 obtain ⟨a2,ha2⟩:∃ a,a=p2 * 2 ^ 40+a3:=⟨_,rfl⟩
 rw [← ha2] at o2
 have w2:IntKind.u64.wrap ((a2:Nat):Int)=((a2:Nat):Int):=by unfold IntKind.wrap;simp [IntKind.bits,IntKind.signed];omega
 have s1:IntKind.u64.wrap ((p1:Int) * 2 ^ (min 48 (kbits .u64)))=((p1 * 2 ^ 48:Nat):Int):=by
  rw [show (2:Int) ^ (min 48 (kbits .u64))=281474976710656 from rfl,show (2:Nat) ^ 48=281474976710656 from rfl];unfold IntKind.wrap;simp [IntKind.bits,IntKind.signed];omega
 have hA1:a2 < 281474976710656:=by omega
 have o1:(BitVec.ofInt (kbits .u64) ((a2:Nat):Int) ||| BitVec.ofInt (kbits .u64) ((p1 * 2 ^ 48:Nat):Int)).toNat=p1 * 2 ^ 48+a2:=or_shift (bits:=64) hA1 (by omega)
 obtain ⟨a1,ha1⟩:∃ a,a=p1 * 2 ^ 48+a2:=⟨_,rfl⟩
 rw [← ha1] at o1
 have w1:IntKind.u64.wrap ((a1:Nat):Int)=((a1:Nat):Int):=by unfold IntKind.wrap;simp [IntKind.bits,IntKind.signed];omega
 have s0:IntKind.u64.wrap ((p0:Int) * 2 ^ (min 56 (kbits .u64)))=((p0 * 2 ^ 56:Nat):Int):=by
  rw [show (2:Int) ^ (min 56 (kbits .u64))=72057594037927936 from rfl,show (2:Nat) ^ 56=72057594037927936 from rfl];unfold IntKind.wrap;simp [IntKind.bits,IntKind.signed];omega
 have hA0:a1 < 72057594037927936:=by omega
 have o0:(BitVec.ofInt (kbits .u64) ((a1:Nat):Int) ||| BitVec.ofInt (kbits .u64) ((p0 * 2 ^ 56:Nat):Int)).toNat=p0 * 2 ^ 56+a1:=or_shift (bits:=64) hA0 (by omega)
 obtain ⟨a0,ha0⟩:∃ a,a=p0 * 2 ^ 56+a1:=⟨_,rfl⟩
 rw [← ha0] at o0
 have w0:IntKind.u64.wrap ((a0:Nat):Int)=((a0:Nat):Int):=by unfold IntKind.wrap;simp [IntKind.bits,IntKind.signed];omega
 have hfin:(((((((p0 * 256+p1) * 256+p2) * 256+p3) * 256+p4) * 256+p5) * 256+p6) * 256+p7)=a0:=by omega
 rw [hfin]
 refine fn_of_W Tryd.func57 rfl Tryd.results57 Tryd.ntmps57 rfl ?_
 repeat ((first|refine qA rfl ?_|apply qB|refine qC rfl ?_|apply qD|apply qE|apply qF|apply qG|apply qH);try simp (maxSteps:=1000000)(disch:=(first|omega|(simp only [qI,qJ,qK]<;>omega)|exact qL _)) only [go_sem,↓reduceIte,n0,reduceCtorEq,n1,n2,n3,n4,n5,i0,i1,i2,i3,i4,i5,i6,i7,hx,q0,q1,q2,q3,q4,q5,q6,q7])
 refine W.drawR (.take 0 (.take 1 (.take 2 (.take 3 (.take 4 (.take 5 (.take 6 (.take 7 (.take 8 (.take 9 (.take 10 (.take 11 (.take 12 (.take 13 (.take 14 (.take 15 (.take 16 (.take 17 (.take 18 (.take 19 (.take 20 (.take 21 (.take 22 (.take 23 (.take 24 (.take 25 (.take 26 (.take 27 (.take 28 (.take 29 (.take 30 (.take 31 (.take 32 (.take 33 (.take 34 (.take 35 (.take 36 (.take 37 (.take 38 (.take 39 (.take 40 (.take 41 (.take 42 (.take 43 (.take 44 (.take 45 (.only 46 .done))))))))))))))))))))))))))))))))))))))))))))))) NoB mixed (by kernel_rfl) ?_
 simp (maxSteps:=1000000)(disch:=(first|omega|(simp only [qI,qJ,qK]<;>omega)|exact qL _)) only [go_sem,↓reduceIte,n0,reduceCtorEq,n1,n2,n3,n4,n5,i0,i1,i2,i3,i4,i5,i6,i7,hx,q0,q1,q2,q3,q4,q5,q6,q7,c0,c1,c2,c3,c4,c5,c6,c7,s6,o6,w6,s5,o5,w5,s4,o4,w4,s3,o3,w3,s2,o2,w2,s1,o1,w1,s0,o0,w0]
 refine ⟨Upd.refl _ _,?_⟩
 repeat ((first|refine qA rfl ?_|apply qB|refine qC rfl ?_|apply qD|apply qE|apply qF|apply qG|apply qH);try simp (maxSteps:=1000000)(disch:=(first|omega|(simp only [qI,qJ,qK]<;>omega)|exact qL _)) only [go_sem,↓reduceIte,n0,reduceCtorEq,n1,n2,n3,n4,n5,i0,i1,i2,i3,i4,i5,i6,i7])
 exact (Upd.alloc (Upd.refl _ _) _).drew

end Ms

