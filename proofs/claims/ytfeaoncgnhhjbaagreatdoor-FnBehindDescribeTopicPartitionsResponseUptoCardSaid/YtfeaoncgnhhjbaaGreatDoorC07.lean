/- A part of the proof: see the last text. -/
import Derived.Shelf.GgSortFunc.Insertion
import Derived.Shelf.GgSortFunc.Whole
import Derived.Shelf.GgSortFunc.Tiny
import Derived.Test.YtfeaoncgnhhjbaaGreatDoorProg
import Derived.KernelRfl
import Derived.Test.YtfeaoncgnhhjbaaGreatDoorC00
import Derived.Test.YtfeaoncgnhhjbaaGreatDoorC01
import Derived.Test.YtfeaoncgnhhjbaaGreatDoorC02
import Derived.Test.YtfeaoncgnhhjbaaGreatDoorC03
import Derived.Test.YtfeaoncgnhhjbaaGreatDoorC05
set_option linter.unusedSimpArgs false
set_option linter.unusedVariables false
namespace Ms
open Go Go.ChangeMaps

section
variable {P : Program} {ρ : Regs} {w : World} {K : Regs → World → Prop} {d : Option Nat} {type : TypeId} {pos : String} {after : Array Edge} {guard : Option (Nat × Bool)}
theorem wp_entry {x : Operand} {r bm since : Nat} {seen : Array Nat} {es : Array MapEntry} {clock : Nat} {e : MapEntry} (hx : ev ρ x = .pointer (some ⟨r,0,none⟩))
    (hr : w.heap[r]? = some (.mapIter (some bm) since (seen.push e.born) clock)) (hb : w.heap[bm]? = some (.map es clock)) (he : e ∈ es.toList) (hn : (es.toList.map (·.born)).Nodup) (hk : K (put ρ d (.tuple #[e.key,e.val])) w) :
    rawK P { dst := d,op := .entry x,type := type,pos := pos,after := after,guard := guard } ρ w K := by
  refine wp_raw (v := .tuple #[e.key,e.val]) ?_ hk
  simp only [execOp,hx,Sem.run_bind,run_entry_at w r bm since seen es clock e hr hb he hn,Result.andThen_ok,Sem.run_pure]
end

def keyN (e : MapEntry) : Nat := match e.key with | .int _ n => n.toNat | _ => 0
structure Ranged (es : Array MapEntry) (seen : Array Nat) (xs : List Nat) (l rest : List MapEntry) : Prop where
  perm : (l ++ rest).Perm es.toList
  seen : seen.toList = l.map (·.born)
  keys : xs = l.map keyN
theorem Ranged.start (es : Array MapEntry) : Ranged es #[] [] [] es.toList := ⟨List.Perm.refl _,rfl,rfl⟩
theorem mem_leftOf {es : Array MapEntry} {seen : Array Nat} {e : MapEntry} (h : e ∈ (leftOf es seen).toList) : e ∈ es.toList ∧ e.born ∉ seen.toList := by
  simp only [leftOf,Array.toList_filter,List.mem_filter] at h
  refine ⟨h.1,?_⟩
  have := h.2
  simp at this
  simpa using this
theorem Ranged.step {es : Array MapEntry} {seen : Array Nat} {xs : List Nat} {l rest : List MapEntry} (h : Ranged es seen xs l rest) {e : MapEntry} (he : e ∈ (leftOf es seen).toList) :
    ∃ rest',Ranged es (seen.push e.born) (xs ++ [keyN e]) (l ++ [e]) rest' ∧ xs.length < es.size := by
  obtain ⟨h1,h2⟩ := mem_leftOf he
  rw [h.seen] at h2
  have hm : e ∈ rest := by
    rcases List.mem_append.1 (h.perm.mem_iff.2 h1) with h3 | h3
    · exact absurd (List.mem_map.2 ⟨e,h3,rfl⟩) h2
    · exact h3
  obtain ⟨a,b,rfl⟩ := List.append_of_mem hm
  refine ⟨a ++ b,⟨?_,by simp [h.seen],by simp [h.keys]⟩,?_⟩
  · refine List.Perm.trans ?_ h.perm
    rw [List.append_assoc]
    refine List.Perm.append_left l ?_
    show (e :: (a ++ b)).Perm _
    exact (List.perm_middle).symm
  · have := h.perm.length_eq
    have e1 : xs.length = l.length := by rw [h.keys,List.length_map]
    simp only [List.length_append,List.length_cons,Array.length_toList] at this
    omega
theorem Ranged.done {es : Array MapEntry} {seen : Array Nat} {xs : List Nat} {l rest : List MapEntry} (h : Ranged es seen xs l rest) (h0 : (leftOf es seen).size = 0) (hn : (es.toList.map (·.born)).Nodup) : xs.Perm (es.toList.map keyN) := by
  have hr : rest = [] := by
    cases rest with
    | nil => rfl
    | cons e rest =>
      exfalso
      have h1 : e ∈ es.toList := h.perm.mem_iff.1 (by simp)
      have h2 : e.born ∉ seen.toList := by
        rw [h.seen]
        have hn2 : ((l ++ e :: rest).map (·.born)).Nodup := (h.perm.map _).nodup_iff.2 hn
        rw [List.map_append,List.nodup_append] at hn2
        intro hm
        exact hn2.2.2 _ hm _ (by simp) rfl
      have h3 : e ∈ (leftOf es seen).toList := by
        simp only [leftOf,Array.toList_filter,List.mem_filter]
        refine ⟨h1,?_⟩
        simpa using h2
      have : (leftOf es seen).toList = [] := by
        apply List.eq_nil_of_length_eq_zero
        simpa using h0
      rw [this] at h3;simp at h3
  subst hr
  rw [h.keys]
  have := h.perm.map keyN
  simpa using this
theorem Ranged.len {es : Array MapEntry} {seen : Array Nat} {xs : List Nat} {l rest : List MapEntry} (h : Ranged es seen xs l rest) : xs.length ≤ es.size := by
  have := h.perm.length_eq
  have e1 : xs.length = l.length := by rw [h.keys,List.length_map]
  simp only [List.length_append,Array.length_toList] at this
  omega

/-! ### The sort -/
def ltNat (a b : Nat) : Bool := decide (a < b)
theorem swo_ltNat : Go.Sort.SWO ltNat where
  irrefl x := by simp [ltNat]
  trans x y z h1 h2 := by simp only [ltNat,decide_eq_true_eq] at *;omega
  ntrans x y z h1 h2 := by simp only [ltNat,decide_eq_false_iff_not] at *;omega
def u32V (n : Nat) : Value := .int .u32 n
theorem sorted_keys {xs d' : Array Nat} {ks : List Nat} (hp : Go.Sort.PermIn 0 xs.size xs d') (hs : Go.Sort.SortedIn ltNat 0 xs.size d') (hk : xs.toList.Perm ks) (hks : ks.Pairwise (· < ·)) : d'.toList = ks := by
  obtain ⟨hsz,_,hperm⟩ := hp
  have e1 : d'.extract 0 xs.size = d' := by rw [← hsz];exact Array.extract_size
  rw [e1,Array.extract_size] at hperm
  refine List.Perm.eq_of_pairwise (le := fun x y => x ≤ y) (fun a b _ _ h1 h2 => Nat.le_antisymm h1 h2) ?_ (hks.imp fun h => Nat.le_of_lt h) (hperm.trans hk)
  rw [List.pairwise_iff_getElem]
  intro i j hi hj hij
  have hi' : i < d'.size := by simpa using hi
  have hj' : j < d'.size := by simpa using hj
  have := hs i j (Nat.zero_le _) hij (by omega)
  rw [getElem!_pos d' j hj',getElem!_pos d' i hi'] at this
  simp only [ltNat,decide_eq_false_iff_not] at this
  simp only [Array.getElem_toList];omega

/-! ### Worlds behind the sort -/
theorem blk_mapBlock_ne (w : World) (b g : Nat) (f : Array Value → Array Value) (h : b ≠ g) : (Go.Sort.mapBlock w g f).heap[b]? = w.heap[b]? := by
  simp only [Go.Sort.mapBlock,Array.getElem?_modify]
  rw [if_neg (Ne.symm h)]
theorem upd_putRow (w : World) (n g off : Nat) (d : Array Nat) (os : Array Obj) : Upd (fun b => b = g) w (Go.Sort.grow (Go.Sort.putRow u32V (Go.Sort.ahead w n) g off d) os) := by
  refine ⟨rfl,rfl,rfl,?_,fun b hb hn => ?_⟩
  · rw [Go.Sort.size_grow,Go.Sort.size_putRow];show w.heap.size ≤ _;exact Nat.le_add_right _ _
  · rw [Go.Sort.heap_grow_old _ _ (by rw [Go.Sort.size_putRow];exact hb)]
    exact blk_mapBlock_ne _ _ _ _ hn
theorem upd_grow (w : World) (os : Array Obj) : Ext w (Go.Sort.grow w os) := by
  refine ⟨rfl,rfl,rfl,?_,fun b hb hn => Go.Sort.heap_grow_old _ _ hb⟩
  rw [Go.Sort.size_grow];exact Nat.le_add_right _ _
theorem blk_putRow {w : World} {g n off : Nat} {d : Array Nat} {os : Array Obj} {x : Blk} (h : blk w g = some x) : blk (Go.Sort.grow (Go.Sort.putRow u32V (Go.Sort.ahead w n) g off d) os) g = some (Go.Sort.putCells u32V off d x.1,x.2) := by
  have hlt := blk_lt h
  have e : (Go.Sort.grow (Go.Sort.putRow u32V (Go.Sort.ahead w n) g off d) os).heap[g]? = (w.heap[g]?).map (Go.Sort.onCells (Go.Sort.putCells u32V off d)) := by
    rw [Go.Sort.heap_grow_old _ _ (by rw [Go.Sort.size_putRow];exact hlt)]
    simp only [Go.Sort.putRow,Go.Sort.mapBlock,Array.getElem?_modify,if_true]
    rfl
  unfold blk at h ⊢
  rw [e]
  cases hh : w.heap[g]? with
  | none => rw [hh] at h;cases h
  | some o =>
    rw [hh] at h
    cases o <;> first | (simp at h;done) | skip
    simp only [Option.some.injEq] at h
    subst h
    rfl
theorem putCells_row (d0 d : Array Nat) (rest : List Value) (h : d.size = d0.size) : Go.Sort.putCells u32V 0 d (d0.toList.map u32V ++ rest).toArray = (d.toList.map u32V ++ rest).toArray := by
  apply Array.ext_getElem?
  intro k
  simp only [Go.Sort.putCells,Array.getElem?_mapIdx,List.getElem?_toArray,Nat.zero_le,true_and,Nat.zero_add,Nat.sub_zero]
  by_cases hk : k < d.size
  · rw [List.getElem?_append_left (by simp;omega),List.getElem?_append_left (by simpa using hk)]
    simp only [List.getElem?_map,Array.getElem?_toList]
    rw [Array.getElem?_eq_getElem (by omega : k < d0.size),Array.getElem?_eq_getElem hk]
    simp [hk]
  · rw [List.getElem?_append_right (by simp;omega),List.getElem?_append_right (by simp;omega)]
    simp only [List.length_map,Array.length_toList,h]
    cases rest[k - d0.size]? with
    | none => rfl
    | some x => rw [Option.map_some,if_neg (by omega)]
theorem holds_row {w : World} {g : Nat} {d : Array Nat} {rest : List Value} {T : TypeId} {fr : Nat × Nat} {N : Nat} (h : blk w g = some ((d.toList.map u32V ++ rest).toArray,T,fr)) (ht : thaw fr 0 N = true) (hN : d.size ≤ N) : Go.Sort.Holds u32V w g 0 d := by
  intro j hj
  refine ⟨?_,?_⟩
  · rw [cell?_blk,h,Option.bind_some]
    show ((d.toList.map u32V ++ rest).toArray)[0 + j]? = _
    rw [Nat.zero_add,List.getElem?_toArray,List.getElem?_append_left (by simpa using hj),List.getElem?_map,Array.getElem?_toList,Array.getElem?_eq_getElem hj]
    simp [hj]
  · rw [frozen?_blk h]
    simp only [thaw,Bool.or_eq_true,Nat.ble_eq] at ht
    simp only [Bool.and_eq_false_iff,decide_eq_false_iff_not]
    omega

/-! ### A slice in a box,that grows -/
structure BoxA (E T : TypeId) (B db : Nat) (w : World) (v0 : Value) (s : List UInt8) (w' : World) (v : Value) : Prop where
  own : OwnBy E B w' v s
  box : blk w' db = some (#[v],T,(0,0))
  upd : Upd (fun b => b = db ∨ ownB v0 b) w w'
  frame : ∀ b,ownB v b → ownB v0 b ∨ w.heap.size ≤ b
  ne : ¬ ownB v db
theorem BoxA.step {E T : TypeId} {B db : Nat} {w w1 w2 : World} {v0 v1 v2 : Value} {s add : List UInt8} (h : BoxA E T B db w v0 s w1 v1) (hd : db < w.heap.size) (a : AppR E B w1 v1 s add v2 w2) :
    BoxA E T B db w v0 (s ++ add) (wr w2 db 0 [v2]) v2 ∧ blk w2 db = some (#[v1],T,(0,0)) := by
  have hz := h.upd.size
  have hz2 := a.upd.size
  have hb2 : blk w2 db = some (#[v1],T,(0,0)) := by rw [blk_of_heap (a.upd.keep db (by omega) h.ne)];exact h.box
  have hne : ¬ ownB v2 db := fun h1 => (a.frame db h1).elim h.ne (fun h => by omega)
  refine ⟨⟨?_,?_,?_,?_,hne⟩,hb2⟩
  · exact Own.upd a.own (Upd.wr (S := fun b => b = db) (Upd.refl _ _) _ _ (.inr rfl)) fun b hb e => hne (e ▸ hb)
  · rw [blk_wr_eq,hb2];rfl
  · exact (Upd.trans' h.upd a.upd fun b hb ho => (h.frame b ho).elim .inr (fun h => by omega)).wr _ _ (.inr (.inl rfl))
  · intro b hb
    rcases a.frame b hb with h1 | h1
    · exact h.frame b h1
    · exact .inr (by omega)

section
variable {ok : Blocks} {w : World} {u : List TagD} {es : Array MapEntry} {clock : Nat} (hsz : es.size = u.length) (he : ∀ i (h1 : i < u.length) (h2 : i < es.size),TagE ok w u[i] es[i] ∧ es[i].born < clock)
include hsz he
theorem tm_keys : es.toList.map keyN = u.map (·.1) := by
  apply List.ext_getElem (by simp [hsz])
  intro i h1 h2
  simp only [List.length_map,Array.length_toList] at h1 h2
  simp only [List.getElem_map,Array.getElem_toList]
  unfold keyN
  rw [(he i h2 h1).1.key]
  simp
theorem tm_old : ∀ x ∈ es.toList,x.born < clock := by
  intro x hx
  obtain ⟨i,hi,rfl⟩ := List.getElem_of_mem hx
  simp only [Array.length_toList] at hi
  exact (he i (by omega) hi).2
theorem tm_keysU : KeysU es.toList := by
  intro x hx
  obtain ⟨i,hi,rfl⟩ := List.getElem_of_mem hx
  simp only [Array.length_toList] at hi
  exact ⟨_,(he i (by omega) hi).1.key⟩
end
theorem tm_nodup {es : Array MapEntry} (h : ∀ i j (h1 : i < es.size) (h2 : j < es.size),es[i].born = es[j].born → i = j) : (es.toList.map (·.born)).Nodup := by
  rw [List.nodup_iff_pairwise_ne,List.pairwise_iff_getElem]
  intro i j hi hj hij heq
  simp only [List.length_map,Array.length_toList] at hi hj
  simp only [List.getElem_map,Array.getElem_toList] at heq
  have := h i j hi hj heq
  omega
def lenBox (o : Option Blk) : Nat :=
  match o with
  | some x => (match (x.1[0]? : Option Value) with | some (Value.slice _ n _) => n | _ => 0)
  | none => 0
theorem own_ne {B : Nat} {w : World} {E : TypeId} {size n : Nat} {v : Value} {cs : List Value} (h : Own B w E size v n cs) {b : Nat} (hb : ∀ x,blk w b = some x → x.2.1 ≠ E) : ¬ ownB v b := by
  rcases h.2 with ⟨rfl,_⟩ | ⟨g,cap,rest,fr,rfl,_,h2,_⟩
  · rintro ⟨_,_,_,h,_⟩;cases h
  · rintro ⟨a,n,c,h,rfl⟩
    cases h
    exact hb _ h2 rfl
end Ms

namespace Ms
open Go.World renaming size_alloc → qI
open Ms renaming size_wr → qJ,size_drew → qK,not_noB → qL
open W renaming seqR → qA,seq → qB,regR → qC,condK → qD,block → qE,skip → qF,ret → qG,exit → qH
open Nat renaming reduceEqDiff → n0,reduceAdd → n1,reduceMul → n2,reduceSub → n3,reduceLT → n4,reduceLeDiff → n5
open Int renaming reduceEq → i0,reduceLT → i1,reduceLE → i2,reduceNeg → i3,reduceAdd → i4,reduceSub → i5,reduceMul → i6,reduceToNat → i7
set_option maxRecDepth 4000
open Go Go.Proofs
attribute [local congr] W_congr WPsq_congr WPp_congr optK_congr addrK_congr intK_congr boolK_congr sliceK_congr tupleK_congr funcK_congr Fn_congr rawK_congr takeK_congr stepK_congr convK_congr aggK_congr

theorem tagsT : Tryz.prog.underlying 59 = some (.map 53 22) := by kernel_rfl
theorem u32T : Tryz.prog.underlying 53 = some (.int .u32) := by kernel_rfl

theorem TagsLen_fn {ok : Blocks} {tb to : Nat} {x : Blk} {m : Value} {u : List TagD} (w : World) (hb : blk w tb = some x) (hm : x.1[to]? = some m) (ht : TagsM ok w m u) :
    Fn Tryz.prog 43 #[.pointer (some ⟨tb,to,none⟩)] w fun r w' => r = .int .i64 u.length ∧ w' = w := by
  refine fn_of_W Tryz.func43 rfl Tryz.results43 Tryz.ntmps43 rfl ?_
  rcases ht with ⟨rfl,rfl⟩ | ⟨r,es,clock,rfl,hok,hr,hsz,he,hinj⟩
  · repeat ((first | refine qA rfl ?_|apply qB|refine qC rfl ?_|apply qD|apply qE|apply qF|apply qG|apply qH);try simp (disch:=(first|omega|(simp only [qI,qJ,qK]<;>omega)|exact qL _)) only [go_sem,↓reduceIte,n0,reduceCtorEq,n1,n2,n3,n4,n5,i0,i1,i2,i3,i4,i5,i6,i7,hb,hm])
    refine wp_len_nil tagsT rfl ?_
    simp (disch:=(first|omega|(simp only [qI,qJ,qK]<;>omega)|exact qL _)) only [go_sem,↓reduceIte,n0,reduceCtorEq,n1,n2,n3,n4,n5,i0,i1,i2,i3,i4,i5,i6,i7]
    repeat ((first | refine qA rfl ?_|apply qB|refine qC rfl ?_|apply qD|apply qE|apply qF|apply qG|apply qH);try simp (disch:=(first|omega|(simp only [qI,qJ,qK]<;>omega)|exact qL _)) only [go_sem,↓reduceIte,n0,reduceCtorEq,n1,n2,n3,n4,n5,i0,i1,i2,i3,i4,i5,i6,i7])
    rfl
  · repeat ((first | refine qA rfl ?_|apply qB|refine qC rfl ?_|apply qD|apply qE|apply qF|apply qG|apply qH);try simp (disch:=(first|omega|(simp only [qI,qJ,qK]<;>omega)|exact qL _)) only [go_sem,↓reduceIte,n0,reduceCtorEq,n1,n2,n3,n4,n5,i0,i1,i2,i3,i4,i5,i6,i7,hb,hm])
    refine wp_len_map tagsT rfl hr ?_
    simp (disch:=(first|omega|(simp only [qI,qJ,qK]<;>omega)|exact qL _)) only [go_sem,↓reduceIte,n0,reduceCtorEq,n1,n2,n3,n4,n5,i0,i1,i2,i3,i4,i5,i6,i7]
    repeat ((first | refine qA rfl ?_|apply qB|refine qC rfl ?_|apply qD|apply qE|apply qF|apply qG|apply qH);try simp (disch:=(first|omega|(simp only [qI,qJ,qK]<;>omega)|exact qL _)) only [go_sem,↓reduceIte,n0,reduceCtorEq,n1,n2,n3,n4,n5,i0,i1,i2,i3,i4,i5,i6,i7])
    rw [hsz]

theorem TagsSet_none {tb to : Nat} {x : Blk} (w : World) (hb : blk w tb = some x) (hm : x.1[to]? = some (.map none)) (hth : thaw x.2.2 to 1 = true) (k : Nat) (vv : Value) :
    Fn Tryz.prog 84 #[.pointer (some ⟨tb,to,none⟩),.int .u32 k,vv] w fun _ w' =>
      w' = Go.ChangeMaps.setBlock (wr (w.alloc (.map #[] 0)) tb to [.map (some w.heap.size)]) w.heap.size (.map #[{ key := .int .u32 k,val := vv,born := 0 }] 1) := by
  have hlt : to + 1 ≤ x.1.size := (Array.getElem?_eq_some_iff.1 hm).1
  have hbl := blk_lt hb
  have hb1 : blk (w.alloc (.map #[] 0)) tb = some x := blk_alloc_old hbl ▸ hb
  refine fn_of_W Tryz.func84 rfl Tryz.results84 Tryz.ntmps84 rfl ?_
  repeat ((first | refine qA rfl ?_|apply qB|refine qC rfl ?_|apply qD|apply qE|apply qF|apply qG|apply qH);try simp (disch:=(first|omega|(simp only [qI,qJ,qK]<;>omega)|exact qL _)) only [go_sem,↓reduceIte,n0,reduceCtorEq,n1,n2,n3,n4,n5,i0,i1,i2,i3,i4,i5,i6,i7,hb,hm])
  refine wp_makeMap ?_
  simp (disch:=(first|omega|(simp only [qI,qJ,qK]<;>omega)|exact qL _)) only [go_sem,↓reduceIte,n0,reduceCtorEq,n1,n2,n3,n4,n5,i0,i1,i2,i3,i4,i5,i6,i7,hb,hm,hb1,hth,hlt]
  have hg : ((Array.setIfInBounds x.1 to (.map (some w.heap.size))))[to]? = some (.map (some w.heap.size)) := by simp [Nat.lt_of_succ_le hlt]
  have hh : (wr (w.alloc (.map #[] 0)) tb to [.map (some w.heap.size)]).heap[w.heap.size]? = some (.map #[] 0) := by
    rw [heap_wr_ne (by omega)]
    show (w.heap.push (.map #[] 0))[w.heap.size]? = _
    simp
  repeat ((first | refine qA rfl ?_|apply qB|refine qC rfl ?_|apply qD|apply qE|apply qF|apply qG|apply qH);try simp (disch:=(first|omega|(simp only [qI,qJ,qK]<;>omega)|exact qL _)) only [go_sem,↓reduceIte,n0,reduceCtorEq,n1,n2,n3,n4,n5,i0,i1,i2,i3,i4,i5,i6,i7,hb,hm,hb1,hth,hg])
  refine wp_mapUpdate (n := (k : Int)) (v := vv) tagsT u32T (by simp (disch:=(first|omega|(simp only [qI,qJ,qK]<;>omega)|exact qL _)) only [go_sem,↓reduceIte,n0,reduceCtorEq,n1,n2,n3,n4,n5,i0,i1,i2,i3,i4,i5,i6,i7]) (by simp (disch:=(first|omega|(simp only [qI,qJ,qK]<;>omega)|exact qL _)) only [go_sem,↓reduceIte,n0,reduceCtorEq,n1,n2,n3,n4,n5,i0,i1,i2,i3,i4,i5,i6,i7]) (by simp (disch:=(first|omega|(simp only [qI,qJ,qK]<;>omega)|exact qL _)) only [go_sem,↓reduceIte,n0,reduceCtorEq,n1,n2,n3,n4,n5,i0,i1,i2,i3,i4,i5,i6,i7]) hh (by simp [KeysU]) (by simp) ?_
  simp (disch:=(first|omega|(simp only [qI,qJ,qK]<;>omega)|exact qL _)) only [go_sem,↓reduceIte,n0,reduceCtorEq,n1,n2,n3,n4,n5,i0,i1,i2,i3,i4,i5,i6,i7]
  repeat ((first | refine qA rfl ?_|apply qB|refine qC rfl ?_|apply qD|apply qE|apply qF|apply qG|apply qH);try simp (disch:=(first|omega|(simp only [qI,qJ,qK]<;>omega)|exact qL _)) only [go_sem,↓reduceIte,n0,reduceCtorEq,n1,n2,n3,n4,n5,i0,i1,i2,i3,i4,i5,i6,i7])
  rfl
theorem TagsSet_some {tb to r clock : Nat} {x : Blk} {es : Array MapEntry} (w : World) (hb : blk w tb = some x) (hm : x.1[to]? = some (.map (some r))) (hr : w.heap[r]? = some (.map es clock)) (k : Nat) (vv : Value) (h1 : KeysU es.toList) (h2 : ∀ e ∈ es.toList,e.key ≠ .int .u32 k) :
    Fn Tryz.prog 84 #[.pointer (some ⟨tb,to,none⟩),.int .u32 k,vv] w fun _ w' =>
      w' = Go.ChangeMaps.setBlock w r (.map (es.push { key := .int .u32 k,val := vv,born := clock }) (clock + 1)) := by
  refine fn_of_W Tryz.func84 rfl Tryz.results84 Tryz.ntmps84 rfl ?_
  repeat ((first | refine qA rfl ?_|apply qB|refine qC rfl ?_|apply qD|apply qE|apply qF|apply qG|apply qH);try simp (disch:=(first|omega|(simp only [qI,qJ,qK]<;>omega)|exact qL _)) only [go_sem,↓reduceIte,n0,reduceCtorEq,n1,n2,n3,n4,n5,i0,i1,i2,i3,i4,i5,i6,i7,hb,hm])
  refine wp_mapUpdate (n := (k : Int)) (v := vv) tagsT u32T (by simp (disch:=(first|omega|(simp only [qI,qJ,qK]<;>omega)|exact qL _)) only [go_sem,↓reduceIte,n0,reduceCtorEq,n1,n2,n3,n4,n5,i0,i1,i2,i3,i4,i5,i6,i7]) (by simp (disch:=(first|omega|(simp only [qI,qJ,qK]<;>omega)|exact qL _)) only [go_sem,↓reduceIte,n0,reduceCtorEq,n1,n2,n3,n4,n5,i0,i1,i2,i3,i4,i5,i6,i7]) (by simp (disch:=(first|omega|(simp only [qI,qJ,qK]<;>omega)|exact qL _)) only [go_sem,↓reduceIte,n0,reduceCtorEq,n1,n2,n3,n4,n5,i0,i1,i2,i3,i4,i5,i6,i7]) hr h1 h2 ?_
  simp (disch:=(first|omega|(simp only [qI,qJ,qK]<;>omega)|exact qL _)) only [go_sem,↓reduceIte,n0,reduceCtorEq,n1,n2,n3,n4,n5,i0,i1,i2,i3,i4,i5,i6,i7]
  repeat ((first | refine qA rfl ?_|apply qB|refine qC rfl ?_|apply qD|apply qE|apply qF|apply qG|apply qH);try simp (disch:=(first|omega|(simp only [qI,qJ,qK]<;>omega)|exact qL _)) only [go_sem,↓reduceIte,n0,reduceCtorEq,n1,n2,n3,n4,n5,i0,i1,i2,i3,i4,i5,i6,i7])

theorem less_fn {row rc bx n i j a b : Nat} {y x : Blk} (w : World) (hbx : blk w bx = some y) (hy : y.1[0]? = some (.slice (some ⟨row,0,none⟩) n rc)) (hx : blk w row = some x) (hi : i < n) (hj : j < n) (ha : x.1[i]? = some (u32V a)) (hb : x.1[j]? = some (u32V b)) :
    Fn Tryz.prog 87 #[.int .i64 i,.int .i64 j,.pointer (some ⟨bx,0,none⟩)] w fun r w' => r = .bool (ltNat a b) ∧ w' = w.drew := by
  have hlt : decide ((a : Int) < (b : Int)) = ltNat a b := by unfold ltNat;congr 1;exact propext (by omega)
  unfold u32V at ha hb
  have hl1 := blk_lt hbx
  have hl2 := blk_lt hx
  refine fn_of_W Tryz.func87 rfl Tryz.results87 Tryz.ntmps87 rfl ?_
  repeat ((first | refine qA rfl ?_|apply qB|refine qC rfl ?_|apply qD|apply qE|apply qF|apply qG|apply qH);try simp (disch:=(first|omega|(simp only [qI,qJ,qK]<;>omega)|exact qL _)) only [go_sem,↓reduceIte,n0,reduceCtorEq,n1,n2,n3,n4,n5,i0,i1,i2,i3,i4,i5,i6,i7,hbx,hy,hx,ha,hb])
  refine W.drawR (.take 0 (.take 1 (.take 2 (.take 3 (.take 4 (.take 5 (.take 6 (.take 7 (.take 8 (.only 9 .done)))))))))) NoB mixed (by kernel_rfl) ?_
  simp (disch:=(first|omega|(simp only [qI,qJ,qK]<;>omega)|exact qL _)) only [go_sem,↓reduceIte,n0,reduceCtorEq,n1,n2,n3,n4,n5,i0,i1,i2,i3,i4,i5,i6,i7,hbx,hy,hx,ha,hb,hlt,Int.toNat_natCast,Nat.mul_one]
  refine ⟨Upd.refl _ _,?_⟩
  repeat ((first | refine qA rfl ?_|apply qB|refine qC rfl ?_|apply qD|apply qE|apply qF|apply qG|apply qH);try simp (disch:=(first|omega|(simp only [qI,qJ,qK]<;>omega)|exact qL _)) only [go_sem,↓reduceIte,n0,reduceCtorEq,n1,n2,n3,n4,n5,i0,i1,i2,i3,i4,i5,i6,i7])

theorem one_fn {B db : Nat} {ok : Blocks} (v0 v : Value) (s : List UInt8) (w0 w : World) (h0 : BoxA 5 22 B db w0 v0 s w v) (hB : B ≤ w.heap.size) (hdb : db < w0.heap.size) (k : Nat) (hk : k < 4294967296) (p : Value) (x : List UInt8) (hp : BytesV ok w0 p x)
    (hd : ∀ b,b < w0.heap.size → ok b → ¬ (b = db ∨ ownB v0 b)) (hx : x.length ≤ 32767) (hl : s.length ≤ 2 ^ 43) :
    Fn Tryz.prog 78 #[.int .u32 k,p,.pointer (some ⟨db,0,none⟩)] w fun _ w' => ∃ v',BoxA 5 22 B db w0 v0 (s ++ oneTag (k,x)) w' v' := by
  obtain ⟨a,c,rfl,hc⟩ := h0.own.len
  obtain ⟨pb,pc,rfl,hpc⟩ := hp.shape
  have hdb0 := h0.box
  have hu1 := uvarS_len 4 k (by omega)
  have hu2 := uvarS_len 4 x.length (by omega)
  refine fn_of_W Tryz.func78 rfl Tryz.results78 Tryz.ntmps78 rfl ?_
  repeat ((first | refine qA rfl ?_|apply qB|refine qC rfl ?_|apply qD|apply qE|apply qF|apply qG|apply qH);try simp (disch:=(first|omega|(simp only [qI,qJ,qK]<;>omega)|exact qL _)) only [go_sem,↓reduceIte,n0,reduceCtorEq,n1,n2,n3,n4,n5,i0,i1,i2,i3,i4,i5,i6,i7,hdb0])
  refine (AppendUvarint_fn _ s w h0.own hB k hk (by omega)).mono ?_
  rintro r1 w1 a1
  have hz1 := a1.upd.size
  obtain ⟨h2,hb1⟩ := h0.step hdb a1
  obtain ⟨b1,c1,rfl,hc1⟩ := a1.own.len
  generalize hs1 : s ++ uvarS k = s1 at *
  have hl1 : s1.length ≤ s.length + 5 := by rw [← hs1,List.length_append];omega
  have hdb2 := h2.box
  have ew : IntKind.u32.wrap (x.length : Int) = x.length := u32_wrap (by omega)
  simp (disch:=(first|omega|(simp only [qI,qJ,qK]<;>omega)|exact qL _)) only [go_sem,↓reduceIte,n0,reduceCtorEq,n1,n2,n3,n4,n5,i0,i1,i2,i3,i4,i5,i6,i7,hb1]
  generalize hw2 : wr w1 db 0 [.slice b1 s1.length c1] = w2 at *
  have hz2 : w2.heap.size = w1.heap.size := by rw [← hw2,size_wr]
  repeat ((first | refine qA rfl ?_|apply qB|refine qC rfl ?_|apply qD|apply qE|apply qF|apply qG|apply qH);try simp (disch:=(first|omega|(simp only [qI,qJ,qK]<;>omega)|exact qL _)) only [go_sem,↓reduceIte,n0,reduceCtorEq,n1,n2,n3,n4,n5,i0,i1,i2,i3,i4,i5,i6,i7,hdb2,ew])
  refine (AppendUvarint_fn _ s1 w2 h2.own (by omega) x.length (by omega) (by omega)).mono ?_
  rintro r3 w3 a3
  have hz3 := a3.upd.size
  obtain ⟨h4,hb3⟩ := h2.step hdb a3
  obtain ⟨b3,c3,rfl,hc3⟩ := a3.own.len
  generalize hs3 : s1 ++ uvarS x.length = s3 at *
  have hl3 : s3.length ≤ s1.length + 5 := by rw [← hs3,List.length_append];omega
  have hdb4 := h4.box
  simp (disch:=(first|omega|(simp only [qI,qJ,qK]<;>omega)|exact qL _)) only [go_sem,↓reduceIte,n0,reduceCtorEq,n1,n2,n3,n4,n5,i0,i1,i2,i3,i4,i5,i6,i7,hb3]
  generalize hw4 : wr w3 db 0 [.slice b3 s3.length c3] = w4 at *
  have hz4 : w4.heap.size = w3.heap.size := by rw [← hw4,size_wr]
  have hp4 : BytesV ok w4 (.slice pb x.length pc) x := hp.keep (h4.upd.keeps hd)
  repeat ((first | refine qA rfl ?_|apply qB|refine qC rfl ?_|apply qD|apply qE|apply qF|apply qG|apply qH);try simp (disch:=(first|omega|(simp only [qI,qJ,qK]<;>omega)|exact qL _)) only [go_sem,↓reduceIte,n0,reduceCtorEq,n1,n2,n3,n4,n5,i0,i1,i2,i3,i4,i5,i6,i7,hdb4])
  refine wp_append ap_22_22 (m := x.length) (news := x.map byteV) (n := s3.length) (cs := s3.map byteV) (v := .slice b3 s3.length c3) ?_ rfl h4.own (flat_bytes _) ?_ ?_ ?_ ?_
  · simp (disch:=(first|omega|(simp only [qI,qJ,qK]<;>omega)|exact qL _)) only [go_sem,↓reduceIte,n0,reduceCtorEq,n1,n2,n3,n4,n5,i0,i1,i2,i3,i4,i5,i6,i7]
  · simp (disch:=(first|omega|(simp only [qI,qJ,qK]<;>omega)|exact qL _)) only [go_sem,↓reduceIte,n0,reduceCtorEq,n1,n2,n3,n4,n5,i0,i1,i2,i3,i4,i5,i6,i7]
    exact hp4.src
  · omega
  · omega
  intro v' w5 ho5 hu5 hfr
  have a5 : AppR 5 B w4 (.slice b3 s3.length c3) s3 x v' w5 := AppR.of ho5 rfl hu5 hfr
  obtain ⟨h6,hb5⟩ := h4.step hdb a5
  obtain ⟨b5,c5,rfl,hc5⟩ := a5.own.len
  simp (disch:=(first|omega|(simp only [qI,qJ,qK]<;>omega)|exact qL _)) only [go_sem,↓reduceIte,n0,reduceCtorEq,n1,n2,n3,n4,n5,i0,i1,i2,i3,i4,i5,i6,i7,hb5]
  have e : s ++ oneTag (k,x) = s3 ++ x := by rw [show oneTag (k,x) = uvarS k ++ uvarS x.length ++ x from rfl,← List.append_assoc,← List.append_assoc,hs1,hs3]
  rw [e]
  exact ⟨_,h6⟩
end Ms

namespace Ms
open Go Go.ChangeMaps

section
variable {R : List Fld → Rel Tree} {S : List Fld → Nat} {f : Fld} {ok : Blocks} {w : World} {t : Tree} {c : List Value}
theorem RepF_num (h : f.kind = 0 ∨ f.kind = 1 ∨ f.kind = 2 ∨ f.kind = 3 ∨ f.kind = 4 ∨ f.kind = 5 ∨ f.kind = 6) : RepF R S f ok w t c ↔ c = [numC f.kind t.n] := by
  unfold RepF Rep1
  rw [if_neg (by omega),if_neg (by omega),if_neg (by omega),if_neg (by omega),if_neg (by omega),if_neg (by omega),if_neg (by omega)]
theorem RepF_uuid (h : f.kind = 7) : RepF R S f ok w t c ↔ c = (uuidS t.s).map byteV := by
  unfold RepF Rep1
  rw [if_neg (by omega),if_neg (by omega),if_neg (by omega),if_pos h]
theorem RepF_text (h : f.kind = 8) (hn : f.null < 0) : RepF R S f ok w t c ↔ c = [strV t.s] := by
  unfold RepF Rep1
  rw [if_neg (by omega),if_neg (by omega),if_neg (by omega),if_neg (by omega),if_pos h]
theorem RepF_ptr (h : f.kind = 8) (hn : 0 ≤ f.null) : RepF R S f ok w t c ↔ ∃ v,c = [v] ∧ PtrText ok w v t.null t.s := by
  unfold RepF
  rw [if_pos ⟨h,hn⟩]
end
section
variable {R : List Fld → Rel Tree} {k : Int} {sub : List Fld} {ok : Blocks} {w : World} {t : Tree} {c : List Value}
theorem Rep1_num (h : k = 0 ∨ k = 1 ∨ k = 2 ∨ k = 3 ∨ k = 4 ∨ k = 5 ∨ k = 6) : Rep1 R k sub ok w t c ↔ c = [numC k t.n] := by
  unfold Rep1
  rw [if_neg (by omega),if_neg (by omega),if_neg (by omega),if_neg (by omega)]
theorem Rep1_part : Rep1 R 10 sub ok w t c ↔ R sub ok w t c := by
  unfold Rep1
  rw [if_neg (by omega),if_neg (by omega),if_neg (by omega),if_pos rfl]
end
theorem RepF.keepS {tg : Bool} {d : Nat} {f : Fld} {ok : Blocks} {w w' : World} {t : Tree} {c : List Value} (h : RepF (RepS tg d) (szS tg d) f ok w t c) (k : Keeps ok w w') : RepF (RepS tg d) (szS tg d) f ok w' t c :=
  (RepF_lay f fun _ => RepS_lay tg d f.sub).keep h k
theorem PtrText.shape {ok : Blocks} {w : World} {v : Value} {null : Bool} {s : List UInt8} (h : PtrText ok w v null s) : ∃ a,v = .pointer a := by
  unfold PtrText at h
  split at h
  · exact ⟨_,h⟩
  · obtain ⟨b,o,x,h,_⟩ := h;exact ⟨_,h⟩
theorem OptBytes.shape {ok : Blocks} {w : World} {v : Value} {null : Bool} {s : List UInt8} (h : OptBytes ok w v null s) : ∃ a n c,v = .slice a n c := by
  unfold OptBytes at h
  split at h
  · exact ⟨_,_,_,h⟩
  · obtain ⟨a,n,c,h⟩ := h.2;exact ⟨_,_,_,h⟩
theorem OptBytes.some {ok : Blocks} {w : World} {v : Value} {s : List UInt8} (h : OptBytes ok w v false s) : BytesV ok w v s := by
  unfold OptBytes at h
  rw [if_neg (by decide)] at h
  exact h.1
theorem extract_of {x : Array Value} {l : List Value} {o n : Nat} (h : ∀ j,j < n → x[o + j]? = l[j]?) (hl : l.length = n) : x.extract o (o + n) = l.toArray := by
  apply Array.ext_getElem?
  intro j
  have e : l.toArray[j]? = l[j]? := by simp
  rw [e]
  by_cases hj : j < n
  · have h1 := h j hj
    rw [← h1]
    have hlt : o + j < x.size := by
      rcases Nat.lt_or_ge (o + j) x.size with h2 | h2
      · exact h2
      · rw [Array.getElem?_eq_none h2,List.getElem?_eq_getElem (by omega)] at h1;cases h1
    simp only [Array.getElem?_extract]
    rw [if_pos (by omega)]
  · rw [List.getElem?_eq_none (by omega)]
    apply Array.getElem?_eq_none
    simp;omega
theorem list16 {α : Type} {l : List α} (h : l.length = 16) : ∃ a b c d e f g i j k m n o p q r,l = [a,b,c,d,e,f,g,i,j,k,m,n,o,p,q,r] := by
  match l,h with
  | [a,b,c,d,e,f,g,i,j,k,m,n,o,p,q,r],_ => exact ⟨a,b,c,d,e,f,g,i,j,k,m,n,o,p,q,r,rfl⟩

/-! ### A map of tags that is filled -/
def TagsG (ok : Blocks) (L : Nat) (w : World) (m : Value) (u : List TagD) : Prop :=
  (m = .map none ∧ u = []) ∨ ∃ r es clock,m = .map (some r) ∧ L ≤ r ∧ w.heap[r]? = some (.map es clock) ∧ es.size = u.length ∧ (∀ i (h1 : i < u.length) (h2 : i < es.size),TagE (fun b => ok b ∧ b < L) w u[i] es[i] ∧ es[i].born < clock) ∧
    (∀ i j (h1 : i < es.size) (h2 : j < es.size),es[i].born = es[j].born → i = j)
theorem TagsG.start (ok : Blocks) (L : Nat) (w : World) : TagsG ok L w (.map none) [] := .inl ⟨rfl,rfl⟩
theorem TagsG.tags {ok ok' : Blocks} {L : Nat} {w : World} {m : Value} {u : List TagD} (h : TagsG ok L w m u) (h1 : ∀ b,b < L → ok b → ok' b) (h2 : ∀ b,L ≤ b → ok' b) : TagsM ok' w m u := by
  rcases h with h | ⟨r,es,clock,g1,g2,g3,g4,g5,g6⟩
  · exact .inl h
  · exact .inr ⟨r,es,clock,g1,h2 r g2,g3,g4,fun i a b => ⟨(g5 i a b).1.weaken fun b _ hk => h1 b hk.2 hk.1,(g5 i a b).2⟩,g6⟩
theorem TagsG.keep {ok : Blocks} {L : Nat} {w w' : World} {m : Value} {u : List TagD} (h : TagsG ok L w m u) (k : ∀ b,b < w.heap.size → (ok b ∧ b < L) ∨ L ≤ b → w'.heap[b]? = w.heap[b]?) : TagsG ok L w' m u := by
  rcases h with h | ⟨r,es,clock,g1,g2,g3,g4,g5,g6⟩
  · exact .inl h
  · exact .inr ⟨r,es,clock,g1,g2,by rw [k r (heap_lt g3) (.inr g2)];exact g3,g4,fun i a b => ⟨(g5 i a b).1.keep fun b hb hk => k b hb (.inl hk),(g5 i a b).2⟩,g6⟩
theorem TagsG.shape {ok : Blocks} {L : Nat} {w : World} {m : Value} {u : List TagD} (h : TagsG ok L w m u) : ∃ a,m = .map a := by
  rcases h with ⟨h,_⟩ | ⟨r,es,clock,h,_⟩ <;> exact ⟨_,h⟩
theorem TagsM.shape {ok : Blocks} {w : World} {m : Value} {u : List TagD} (h : TagsM ok w m u) : ∃ a,m = .map a := by
  rcases h with ⟨h,_⟩ | ⟨r,es,clock,h,_⟩ <;> exact ⟨_,h⟩
theorem tagE_push {ok : Blocks} {w : World} {u : List TagD} {es : Array MapEntry} {clock : Nat} (hsz : es.size = u.length) (h : ∀ i (h1 : i < u.length) (h2 : i < es.size),TagE ok w u[i] es[i] ∧ es[i].born < clock) {y : TagD} {e : MapEntry} (he : TagE ok w y e) (hb : e.born = clock) :
    (es.push e).size = (u ++ [y]).length ∧ (∀ i (h1 : i < (u ++ [y]).length) (h2 : i < (es.push e).size),TagE ok w (u ++ [y])[i] (es.push e)[i] ∧ (es.push e)[i].born < clock + 1) := by
  refine ⟨by simp [hsz],fun i h1 h2 => ?_⟩
  simp only [List.length_append,List.length_cons,List.length_nil] at h1
  by_cases hi : i < u.length
  · rw [List.getElem_append_left hi,Array.getElem_push_lt (by omega)]
    obtain ⟨a,b⟩ := h i hi (by omega)
    exact ⟨a,by omega⟩
  · have : i = es.size := by omega
    subst this
    rw [Array.getElem_push_eq,List.getElem_append_right (by omega)]
    simp only [hsz,Nat.sub_self,List.getElem_cons_zero]
    exact ⟨he,by omega⟩
theorem inj_push {es : Array MapEntry} {clock : Nat} (h : ∀ i j (h1 : i < es.size) (h2 : j < es.size),es[i].born = es[j].born → i = j) (hc : ∀ i (h1 : i < es.size),es[i].born < clock) {e : MapEntry} (hb : e.born = clock) :
    ∀ i j (h1 : i < (es.push e).size) (h2 : j < (es.push e).size),(es.push e)[i].born = (es.push e)[j].born → i = j := by
  intro i j h1 h2 he
  simp only [Array.size_push] at h1 h2
  rw [Array.getElem_push,Array.getElem_push] at he
  split at he
  · rename_i hi
    split at he
    · rename_i hj;exact h i j hi hj he
    · have := hc i hi;omega
  · split at he
    · rename_i hj;have := hc j hj;omega
    · omega
end Ms
namespace Ms
open Go
theorem RepS.intro {d : Nat} {fs : List Fld} {ok : Blocks} {w : World} {t : Tree} {cs c : List Value} {v : Value} (h : cs = c ++ [v]) (h1 : RepL (RepS true d) (szS true d) ok w t fs 0 c) (h2 : TagsM ok w v t.u) : RepS true (d + 1) fs ok w t cs :=
  ⟨c,[v],h,h1,by rw [if_pos rfl];exact ⟨v,rfl,h2⟩⟩
theorem RepL.nil {R : List Fld → Rel Tree} {S : List Fld → Nat} {ok : Blocks} {w : World} {t : Tree} {i : Nat} : RepL R S ok w t [] i [] := rfl
theorem RepL.cons {R : List Fld → Rel Tree} {S : List Fld → Nat} {ok : Blocks} {w : World} {t : Tree} {f : Fld} {fs : List Fld} {i : Nat} {c rest : List Value} (h : RepF R S f ok w (t.at i) c) (hr : RepL R S ok w t fs (i + 1) rest) : RepL R S ok w t (f :: fs) i (c ++ rest) :=
  ⟨c,rest,rfl,h,hr⟩
section
variable {P : List Fld → Tree → Prop} {V : Int} {f : Fld} {t : Tree} (h : FitF P V f t)
include h
theorem FitF.list (hk : f.kind = 11) : t.l.length ≤ 32767 ∧ ∀ x ∈ t.l,x.null = false ∧ Fit1 P f.of f.sub x := by
  have := h.2;rw [if_pos hk] at this;exact this
theorem FitF.one (hk : f.kind ≠ 11) : Fit1 P f.kind f.sub t := by
  have := h.2;rw [if_neg hk] at this;exact this
theorem FitF.text (hk : f.kind = 8 ∨ f.kind = 9) : t.s.length ≤ 32767 := (h.one (by omega)).1 hk
end
theorem Lists.len {t : Tree} (h : Lists t) : t.l.length ≤ 32767 := by cases h;assumption
theorem Lists.get {t : Tree} (h : Lists t) {i : Nat} (hi : i < t.l.length) : Lists t.l[i] := by
  cases h with
  | mk h1 h2 h3 => exact h3 i hi
theorem Lists.at {t : Tree} (h : Lists t) (i : Nat) : Lists (t.at i) := by
  by_cases hi : i < t.l.length
  · have e : t.at i = t.l[i] := by simp [Tree.at,hi]
    rw [e];exact h.get hi
  · have e : t.at i = .zero := by simp [Tree.at,hi]
    rw [e];exact .mk (by simp) (by simp) (fun i h => by simp at h)

theorem GrowR.made {α : Type} {R : Rel α} {size : Nat} {ok : Blocks} {B tb : Nat} {w : World} {E : TypeId} {g cap : Nat} {c : Array Value} (h : blk w g = some (c,E,(0,0))) (hc : c.size = cap * size) (hB : B ≤ g) : GrowR R size ok B tb w E (.slice (some ⟨g,0,none⟩) 0 cap) [] :=
  ⟨[],⟨⟨by simp,.inr ⟨g,cap,c.toList,(0,0),by simp,hB,by simpa using h,by simpa using hc,thaw_00 _ _,Nat.zero_le _⟩⟩,by simp [Css]⟩,rfl,fun i h => by simp at h⟩
theorem GrowR.some {α : Type} {R : Rel α} {size : Nat} {ok : Blocks} {B tb : Nat} {w : World} {E : TypeId} {v : Value} {xs : List α} (h : GrowR R size ok B tb w E v xs) (hv : v ≠ .slice none 0 0) : ∃ a n k,v = .slice (some a) n k := by
  obtain ⟨css,h1,_⟩ := h.ex
  rcases h1.1.2 with ⟨h2,_⟩ | ⟨g,cap,rest,fr,h2,_⟩
  · exact absurd h2 hv
  · exact ⟨_,_,_,h2⟩
end Ms
namespace Ms
abbrev OkS (ok : Blocks) (n : Nat) : Blocks := fun b => ok b ∧ b < n
abbrev OkF (ok : Blocks) (n h : Nat) : Blocks := fun b => OkS ok n b ∨ h ≤ b
end Ms
namespace Ms
open Go
theorem TagsG.lt {ok : Blocks} {L : Nat} {w : World} {q : Option Nat} {u : List TagD} (h : TagsG ok L w (.map q) u) {b : Nat} (hq : q = some b) : b < w.heap.size ∧ L ≤ b := by
  subst hq
  rcases h with ⟨h,_⟩ | ⟨r,es,clock,h,g2,g3,_⟩
  · cases h
  · cases h;exact ⟨heap_lt g3,g2⟩

section
variable {R : List Fld → Rel Tree} {S : List Fld → Nat} {ok : Blocks} {w : World} {t : Tree} {f : Fld} {fs : List Fld} {i : Nat} {rest : List Value}
theorem RepL.cons1 {v : Value} (h : RepF R S f ok w (t.at i) [v]) (hr : RepL R S ok w t fs (i + 1) rest) : RepL R S ok w t (f :: fs) i (v :: rest) := ⟨[v],rest,rfl,h,hr⟩
theorem RepL.cons16 {x0 x1 x2 x3 x4 x5 x6 x7 x8 x9 x10 x11 x12 x13 x14 x15 : Value} (h : RepF R S f ok w (t.at i) [x0,x1,x2,x3,x4,x5,x6,x7,x8,x9,x10,x11,x12,x13,x14,x15]) (hr : RepL R S ok w t fs (i + 1) rest) :
    RepL R S ok w t (f :: fs) i (x0 :: x1 :: x2 :: x3 :: x4 :: x5 :: x6 :: x7 :: x8 :: x9 :: x10 :: x11 :: x12 :: x13 :: x14 :: x15 :: rest) := ⟨_,rest,rfl,h,hr⟩
end

theorem cellsAt_full {x : Array Value} {n : Nat} (h : x.size = n) : cellsAt x 0 n = some (.agg x) := by
  subst h
  rw [cellsAt_ok (by omega),Nat.zero_add,Array.extract_size]
end Ms

namespace Ms
open Nat renaming reduceEqDiff → n0,reduceAdd → n1,reduceMul → n2,reduceSub → n3,reduceLT → n4,reduceLeDiff → n5
open Int renaming reduceEq → i0,reduceLT → i1,reduceLE → i2,reduceNeg → i3,reduceAdd → i4,reduceSub → i5,reduceMul → i6,reduceToNat → i7
set_option maxRecDepth 4000
open Go Go.Proofs Go.Shelf
attribute [local congr] W_congr WPsq_congr WPp_congr optK_congr addrK_congr intK_congr boolK_congr sliceK_congr tupleK_congr funcK_congr Fn_congr rawK_congr takeK_congr stepK_congr convK_congr aggK_congr

theorem TagsSet_fn {okT : Blocks} {L vb o : Nat} {x : Blk} {m : Value} {u : List TagD} (w : World) (hG : TagsG okT L w m u) (hL : L ≤ w.heap.size) (hvL : vb < L) (hb : blk w vb = some x) (hm : x.1[o]? = some m) (hth : thaw x.2.2 o 1 = true)
    (y : TagD) (vv : Value) (hval : BytesV (fun b => okT b ∧ b < L) w vv y.2) (hy : y.1 < 2 ^ 32) (hnew : ∀ z ∈ u,z.1 ≠ y.1) (hoT : ∀ b,okT b → b ≠ vb) :
    Fn Tryz.prog 84 #[.pointer (some ⟨vb,o,none⟩),.int .u32 y.1,vv] w fun _ w' => ∃ m',blk w' vb = some (x.1.setIfInBounds o (.map m'),x.2) ∧ TagsG okT L w' (.map m') (u ++ [y]) ∧ Upd (fun b => b = vb ∨ m = .map (some b)) w w' := by
  have hlt : o < x.1.size := (Array.getElem?_eq_some_iff.1 hm).1
  rcases hG with ⟨rfl,rfl⟩ | ⟨r,es,clock,rfl,g2,g3,g4,g5,g6⟩
  · refine (TagsSet_none w hb hm hth y.1 vv).mono ?_
    rintro _ w' rfl
    have hbl := blk_lt hb
    have hU1 : Upd (fun b => b = vb ∨ Value.map none = .map (some b)) w (wr (w.alloc (.map #[] 0)) vb o [.map (some w.heap.size)]) := ((Upd.refl _ _).alloc _).wr _ _ (.inr (.inl rfl))
    have hU2 := hU1.setBlock w.heap.size (.map #[{ key := .int .u32 y.1,val := vv,born := 0 }] 1) (.inl (Nat.le_refl _))
    have hz : w.heap.size < (wr (w.alloc (.map #[] 0)) vb o [.map (some w.heap.size)]).heap.size := by rw [size_wr,World.size_alloc];omega
    refine ⟨some w.heap.size,?_,.inr ⟨w.heap.size,_,1,rfl,hL,setBlock_same _ _ _ hz,rfl,fun i h1 h2 => ?_,fun i j h1 h2 _ => ?_⟩,hU2⟩
    · rw [blk_of_heap (setBlock_ne _ _ _ (by omega)),blk_wr_eq,blk_alloc_old hbl,hb];rfl
    · simp only [List.nil_append,List.length_cons,List.length_nil] at h1
      obtain rfl : i = 0 := by omega
      refine ⟨⟨rfl,hy,hval.keep (hU2.keeps fun b hb hk h => ?_)⟩,Nat.zero_lt_one⟩
      rcases h with h | h
      · exact hoT b hk.1 h
      · cases h
    · have h1' : i < 1 := h1
      have h2' : j < 1 := h2
      omega
  · have hKU := tm_keysU g4 g5
    refine (TagsSet_some w hb hm g3 y.1 vv hKU ?_).mono ?_
    · intro e he
      obtain ⟨i,hi,rfl⟩ := List.getElem_of_mem he
      simp only [Array.length_toList] at hi
      have := (g5 i (by omega) hi).1.key
      rw [Array.getElem_toList,this]
      intro h
      simp only [Value.int.injEq,true_and] at h
      exact hnew _ (List.getElem_mem (by omega : i < u.length)) (by omega)
    · rintro _ w' rfl
      have hU2 : Upd (fun b => b = vb ∨ Value.map (some r) = .map (some b)) w _ := (Upd.refl _ w).setBlock r (.map (es.push { key := .int .u32 y.1,val := vv,born := clock }) (clock + 1)) (.inr (.inr rfl))
      have hkp : Keeps (fun b => okT b ∧ b < L) w _ := hU2.keeps fun b hb hk h => by
        rcases h with h | h
        · exact hoT b hk.1 h
        · cases h;have := hk.2;omega
      have hp := tagE_push (e := { key := .int .u32 y.1,val := vv,born := clock }) (y := y) g4 (fun i h1 h2 => ⟨(g5 i h1 h2).1.keep hkp,(g5 i h1 h2).2⟩) ⟨rfl,hy,hval.keep hkp⟩ rfl
      refine ⟨some r,?_,.inr ⟨r,_,clock + 1,rfl,g2,setBlock_same _ _ _ (heap_lt g3),hp.1,hp.2,inj_push g6 (fun i h1 => (g5 i (by omega) h1).2) rfl⟩,hU2⟩
      rw [blk_of_heap (setBlock_ne _ _ _ (by omega)),hb]
      have e : x.1.setIfInBounds o (.map (some r)) = x.1 := by
        apply Array.ext_getElem?
        intro k
        rw [Array.getElem?_setIfInBounds]
        split
        · rename_i h;subst h
          exact hm.symm
        · rfl
      rw [e]

end Ms

namespace Ms
open Go.World renaming size_alloc → qI
open Ms renaming size_wr → qJ,size_drew → qK,not_noB → qL
open W renaming seqR → qA,seq → qB,regR → qC,condK → qD,block → qE,skip → qF,ret → qG,exit → qH
open Nat renaming reduceEqDiff → n0,reduceAdd → n1,reduceMul → n2,reduceSub → n3,reduceLT → n4,reduceLeDiff → n5
open Int renaming reduceEq → i0,reduceLT → i1,reduceLE → i2,reduceNeg → i3,reduceAdd → i4,reduceSub → i5,reduceMul → i6,reduceToNat → i7
set_option maxRecDepth 4000
open Go Go.Proofs Go.Shelf
attribute [local congr] W_congr WPsq_congr WPp_congr optK_congr addrK_congr intK_congr boolK_congr sliceK_congr tupleK_congr funcK_congr Fn_congr rawK_congr takeK_congr stepK_congr convK_congr aggK_congr

theorem version_fn (w : World) (n m : Nat) (hn : n < 256) (hm : m < 1000) : Fn Tryz.prog 7 #[.int .u8 n,.int .i64 m] w fun r w' => r = .int .i64 ((n % (m + 1) : Nat) : Int) ∧ w' = w := by
  have e1 : IntKind.i64.wrap (n : Int) = n := i64_wrap (by omega)
  have e2 : IntKind.i64.wrap ((m : Int) + 1) = (m : Int) + 1 := i64_wrap (by omega)
  have e3 : ¬ ((m : Int) + 1 = 0) := by omega
  have e4 : ((n : Int).tmod ((m : Int) + 1)) = ((n % (m + 1) : Nat) : Int) := by rw [Int.tmod_eq_emod_of_nonneg (by omega),Int.natCast_emod];rfl
  refine fn_of_W Tryz.func7 rfl Tryz.results7 Tryz.ntmps7 rfl ?_
  repeat ((first | refine qA rfl ?_|apply qB|refine qC rfl ?_|apply qD|apply qE|apply qF|apply qG|apply qH);try simp (disch:=(first|omega|(simp only [qI,qJ,qK]<;>omega)|exact qL _)) only [go_sem,↓reduceIte,n0,reduceCtorEq,n1,n2,n3,n4,n5,i0,i1,i2,i3,i4,i5,i6,i7,e1,e2,e3,e4])
end Ms

namespace Ms
open Nat renaming reduceEqDiff → n0,reduceAdd → n1,reduceMul → n2,reduceSub → n3,reduceLT → n4,reduceLeDiff → n5
open Int renaming reduceEq → i0,reduceLT → i1,reduceLE → i2,reduceNeg → i3,reduceAdd → i4,reduceSub → i5,reduceMul → i6,reduceToNat → i7
set_option maxRecDepth 4000
open Go Go.Proofs Go.Shelf
def slRen : Ren where
  f := fun x => match x with
    | 6 => 86
    | 10 => 89
    | 11 => 90
    | 12 => 91
    | 13 => 92
    | 14 => 93
    | 24 => 85
    | 25 => 103
    | 26 => 104
    | 27 => 105
    | 28 => 106
    | 29 => 107
    | 30 => 108
    | 31 => 109
    | 32 => 110
    | 33 => 111
    | 34 => 112
    | 35 => 113
    | 36 => 114
    | 37 => 115
    | 38 => 116
    | 39 => 117
    | n => n
  t := fun x => match x with
    | 20 => 20
    | 26 => 129
    | 35 => 135
    | 0 => 0
    | 37 => 137
    | 3 => 3
    | 41 => 101
    | 44 => 142
    | 49 => 53
    | 51 => 70
    | 4 => 4
    | 54 => 149
    | 53 => 148
    | 58 => 153
    | 5 => 5
    | 9 => 9
    | 60 => 155
    | 64 => 159
    | 66 => 161
    | 67 => 162
    | 17 => 17
    | 32 => 132
    | 33 => 133
    | 82 => 177
    | 12 => 12
    | 75 => 170
    | 76 => 171
    | 77 => 172
    | 78 => 173
    | 79 => 174
    | 80 => 175
    | n => n
  g := fun n => n
theorem sl6 : LaysGg.n6 Tryz.prog slRen where
  mixed := by kernel_rfl
  f6 := by kernel_rfl
  f10 := by kernel_rfl
  f11 := by kernel_rfl
  f12 := by kernel_rfl
  f13 := by kernel_rfl
  f14 := by kernel_rfl
  f24 := by kernel_rfl
  f25 := by kernel_rfl
  f26 := by kernel_rfl
  f27 := by kernel_rfl
  f28 := by kernel_rfl
  f29 := by kernel_rfl
  f30 := by kernel_rfl
  f31 := by kernel_rfl
  f32 := by kernel_rfl
  f33 := by kernel_rfl
  f34 := by kernel_rfl
  f35 := by kernel_rfl
  f36 := by kernel_rfl
  f37 := by kernel_rfl
  f38 := by kernel_rfl
  f39 := by kernel_rfl
  t0 := Tryz.underlying0
  a0 := Tryz.isAgg0
  z0 := Tryz.sizeOf0
  v0 := Tryz.zeroValue0
  i0 := by kernel_rfl
  t3 := Tryz.underlying3
  a3 := Tryz.isAgg3
  z3 := Tryz.sizeOf3
  v3 := Tryz.zeroValue3
  i3 := by kernel_rfl
  t4 := Tryz.underlying4
  a4 := Tryz.isAgg4
  z4 := Tryz.sizeOf4
  v4 := Tryz.zeroValue4
  i4 := by kernel_rfl
  t5 := Tryz.underlying5
  a5 := Tryz.isAgg5
  z5 := Tryz.sizeOf5
  v5 := Tryz.zeroValue5
  i5 := by kernel_rfl
  t9 := Tryz.underlying9
  a9 := Tryz.isAgg9
  z9 := Tryz.sizeOf9
  v9 := Tryz.zeroValue9
  i9 := by kernel_rfl
  t12 := Tryz.underlying12
  a12 := Tryz.isAgg12
  z12 := Tryz.sizeOf12
  v12 := Tryz.zeroValue12
  i12 := by kernel_rfl
  t17 := Tryz.underlying17
  a17 := Tryz.isAgg17
  z17 := Tryz.sizeOf17
  v17 := Tryz.zeroValue17
  i17 := by kernel_rfl
  t20 := Tryz.underlying20
  a20 := Tryz.isAgg20
  z20 := Tryz.sizeOf20
  v20 := Tryz.zeroValue20
  i20 := by kernel_rfl
  t26 := Tryz.underlying129
  a26 := Tryz.isAgg129
  z26 := Tryz.sizeOf129
  v26 := Tryz.zeroValue129
  i26 := by kernel_rfl
  t32 := Tryz.underlying132
  a32 := Tryz.isAgg132
  z32 := Tryz.sizeOf132
  v32 := Tryz.zeroValue132
  i32 := by kernel_rfl
  t33 := Tryz.underlying133
  a33 := Tryz.isAgg133
  z33 := Tryz.sizeOf133
  v33 := Tryz.zeroValue133
  i33 := by kernel_rfl
  t35 := Tryz.underlying135
  a35 := Tryz.isAgg135
  z35 := Tryz.sizeOf135
  v35 := Tryz.zeroValue135
  i35 := by kernel_rfl
  t37 := Tryz.underlying137
  a37 := Tryz.isAgg137
  z37 := Tryz.sizeOf137
  v37 := Tryz.zeroValue137
  i37 := by kernel_rfl
  t41 := Tryz.underlying101
  a41 := Tryz.isAgg101
  z41 := Tryz.sizeOf101
  v41 := Tryz.zeroValue101
  i41 := by kernel_rfl
  t44 := Tryz.underlying142
  a44 := Tryz.isAgg142
  z44 := Tryz.sizeOf142
  v44 := Tryz.zeroValue142
  i44 := by kernel_rfl
  t49 := Tryz.underlying53
  a49 := Tryz.isAgg53
  z49 := Tryz.sizeOf53
  v49 := Tryz.zeroValue53
  i49 := by kernel_rfl
  t51 := Tryz.underlying70
  a51 := Tryz.isAgg70
  z51 := Tryz.sizeOf70
  v51 := Tryz.zeroValue70
  i51 := by kernel_rfl
  t53 := Tryz.underlying148
  a53 := Tryz.isAgg148
  z53 := Tryz.sizeOf148
  v53 := Tryz.zeroValue148
  i53 := by kernel_rfl
  t54 := Tryz.underlying149
  a54 := Tryz.isAgg149
  z54 := Tryz.sizeOf149
  v54 := Tryz.zeroValue149
  i54 := by kernel_rfl
  t58 := Tryz.underlying153
  a58 := Tryz.isAgg153
  z58 := Tryz.sizeOf153
  v58 := Tryz.zeroValue153
  i58 := by kernel_rfl
  t60 := Tryz.underlying155
  a60 := Tryz.isAgg155
  z60 := Tryz.sizeOf155
  v60 := Tryz.zeroValue155
  i60 := by kernel_rfl
  t64 := Tryz.underlying159
  a64 := Tryz.isAgg159
  z64 := Tryz.sizeOf159
  v64 := Tryz.zeroValue159
  i64 := by kernel_rfl
  t66 := Tryz.underlying161
  a66 := Tryz.isAgg161
  z66 := Tryz.sizeOf161
  v66 := Tryz.zeroValue161
  i66 := by kernel_rfl
  t67 := Tryz.underlying162
  a67 := Tryz.isAgg162
  z67 := Tryz.sizeOf162
  v67 := Tryz.zeroValue162
  i67 := by kernel_rfl
  t75 := Tryz.underlying170
  a75 := Tryz.isAgg170
  z75 := Tryz.sizeOf170
  v75 := Tryz.zeroValue170
  i75 := by kernel_rfl
  t76 := Tryz.underlying171
  a76 := Tryz.isAgg171
  z76 := Tryz.sizeOf171
  v76 := Tryz.zeroValue171
  i76 := by kernel_rfl
  t77 := Tryz.underlying172
  a77 := Tryz.isAgg172
  z77 := Tryz.sizeOf172
  v77 := Tryz.zeroValue172
  i77 := by kernel_rfl
  t78 := Tryz.underlying173
  a78 := Tryz.isAgg173
  z78 := Tryz.sizeOf173
  v78 := Tryz.zeroValue173
  i78 := by kernel_rfl
  t79 := Tryz.underlying174
  a79 := Tryz.isAgg174
  z79 := Tryz.sizeOf174
  v79 := Tryz.zeroValue174
  i79 := by kernel_rfl
  t80 := Tryz.underlying175
  a80 := Tryz.isAgg175
  z80 := Tryz.sizeOf175
  v80 := Tryz.zeroValue175
  i80 := by kernel_rfl
  t82 := Tryz.underlying177
  a82 := Tryz.isAgg177
  z82 := Tryz.sizeOf177
  v82 := Tryz.zeroValue177
  i82 := by kernel_rfl
end Ms

namespace Ms
open Nat renaming reduceEqDiff → n0,reduceAdd → n1,reduceMul → n2,reduceSub → n3,reduceLT → n4,reduceLeDiff → n5
open Int renaming reduceEq → i0,reduceLT → i1,reduceLE → i2,reduceNeg → i3,reduceAdd → i4,reduceSub → i5,reduceMul → i6,reduceToNat → i7
set_option maxRecDepth 4000
open Go Go.Proofs Go.Shelf
attribute [local congr] W_congr WPsq_congr WPp_congr optK_congr addrK_congr intK_congr boolK_congr sliceK_congr tupleK_congr funcK_congr Fn_congr rawK_congr takeK_congr stepK_congr convK_congr aggK_congr

theorem calls_bool {P : Program} {f : Nat} {args : Array Value} {w W : World} {b : Bool} (h : Fn P f args w fun r w' => r = .bool b ∧ w' = W.drew) : Calls P f args w fun e w' => e = .returned (.bool b) ∧ ∃ q,w' = W.drewN q :=
  Calls.mono h fun e w' he => by
    cases e with
    | returned v => exact ⟨by rw [he.1],1,he.2⟩
    | _ => exact he.elim

theorem sort_fn {row c b4 N : Nat} {y : Blk} {fr : Nat × Nat} {rest : List Value} (xs : Array Nat) (w : World) (hrow : blk w row = some ((xs.toList.map u32V ++ rest).toArray,53,fr)) (ht : thaw fr 0 N = true) (hN : xs.size ≤ N)
    (hb4 : blk w b4 = some y) (hy : y.1[0]? = some (.slice (some ⟨row,0,none⟩) xs.size c)) (hne : b4 ≠ row) (ks : List Nat) (hp : xs.toList.Perm ks) (hk : ks.Pairwise (· < ·)) (hsz : xs.size < 4611686018427387904) :
    Fn Tryz.prog 86 #[.iface 127 (.slice (some ⟨row,0,none⟩) xs.size c),.func (.func 87) #[] #[.pointer (some ⟨b4,0,none⟩)]] w fun _ w' =>
      Upd (fun b => b = row) w w' ∧ blk w' row = some ((ks.map u32V ++ rest).toArray,53,fr) := by
  have hT : (Tryz.prog.info? 127).map (fun i => i.desc) = some (.slice 53) := by kernel_rfl
  obtain ⟨iT,hiT,hdT⟩ := Option.map_eq_some_iff.1 hT
  have hE : (Tryz.prog.info? 53).map (fun i => (i.size,i.hasPointers,i.bytes)) = some (1,false,4) := by kernel_rfl
  obtain ⟨iE,hiE,hdE⟩ := Option.map_eq_some_iff.1 hE
  have hE1 : iE.size = 1 := congrArg (·.1) hdE
  have hE2 : iE.hasPointers = false := congrArg (·.2.1) hdE
  have hE3 : iE.bytes = 4 := congrArg (·.2.2) hdE
  have hpk : Tryz.prog.packed 127 = false := by kernel_rfl
  have hagg : ∀ w,(isAgg 53).run Tryz.prog w = .ok false w := fun _ => by kernel_rfl
  have hke : ∀ w,(Extern.Rtype.kind 53).run Tryz.prog w = .ok 10 w := fun _ => by kernel_rfl
  by_cases h2 : 2 ≤ xs.size
  · have hsK : Lib.swapperK xs.size iE 10 = 6 := by
      have c : (xs.size == 0) = false := beq_eq_false_iff_ne.2 (by omega)
      have d : (xs.size == 1) = false := beq_eq_false_iff_ne.2 (by omega)
      simp [Lib.swapperK,hE2,hE3,c,d]
    have hf : Tryz.prog.funcs.findIdx? (·.name == "internal/reflectlite" ++ ".Swapper$" ++ toString (Lib.swapperK xs.size iE 10)) = some 99 := by rw [hsK];kernel_rfl
    have hless : LessReads Tryz.prog 87 #[.pointer (some ⟨b4,0,none⟩)] u32V ltNat row 0 xs.size w := by
      intro m os dk hs i j hi hj
      refine calls_bool ?_
      have hrow' : blk (Go.Sort.grow (Go.Sort.putRow u32V (Go.Sort.ahead w m) row 0 dk) os) row = some ((dk.toList.map u32V ++ rest).toArray,53,fr) := by
        rw [blk_putRow hrow]
        simp only [putCells_row xs dk rest hs]
      have hb4' : blk (Go.Sort.grow (Go.Sort.putRow u32V (Go.Sort.ahead w m) row 0 dk) os) b4 = some y := (upd_putRow w m row 0 dk os).blk_some hb4 hne
      have at_ : ∀ t,t < xs.size → ((dk.toList.map u32V ++ rest).toArray)[t]? = some (u32V dk[t]!) := by
        intro t ht
        rw [List.getElem?_toArray,List.getElem?_append_left (by simp;omega),List.getElem?_map,Array.getElem?_toList,Array.getElem?_eq_getElem (by omega),getElem!_pos dk t (by omega)]
        rfl
      exact less_fn (row := row) (bx := b4) _ hb4' hy hrow' hi hj (at_ i hi) (at_ j hj)
    have hS := Any.sort_Slice_sorted sl6 127 53 iT iE hiT hdT hpk hiE 10 hke hE1 hagg u32V (fun _ => rfl) ltNat swo_ltNat 87 _
      (enters_of Tryz.func87 (by kernel_rfl) rfl) row 0 c xs h2 hsz 99 hf true
      (fun args W => run_callFunc_extern Tryz.func99 (by kernel_rfl) (by kernel_rfl) (by kernel_rfl) (e := Extern.ReflectliteSwapper.swap true) (by kernel_rfl) args W) w hless (holds_row hrow ht hN) (blk_lt hrow)
    change Calls Tryz.prog 86 _ _ _ at hS
    refine Calls.mono hS ?_
    rintro e w' ⟨rfl,d',n,os,hP,hSo,rfl⟩
    have hd := sorted_keys hP hSo hp hk
    refine ⟨upd_putRow w n row 0 d' os,?_⟩
    rw [blk_putRow hrow]
    simp only [putCells_row xs d' rest hP.1,hd]
  · have hf : ∃ f,Tryz.prog.funcs.findIdx? (·.name == "internal/reflectlite" ++ ".Swapper$" ++ toString (Lib.swapperK xs.size iE 10)) = some f := by
      have h01 : xs.size = 0 ∨ xs.size = 1 := by omega
      rcases h01 with h | h
      · refine ⟨94,?_⟩
        rw [h]
        kernel_rfl
      · refine ⟨95,?_⟩
        rw [h]
        kernel_rfl
    obtain ⟨f,hf⟩ := hf
    have hS := Any.sort_Slice_tiny sl6 127 53 iT iE hiT hdT hpk hiE 10 hke (some ⟨row,0,none⟩) xs.size c (by omega) f hf (.func 87) #[] #[.pointer (some ⟨b4,0,none⟩)] w
    change Calls Tryz.prog 86 _ _ _ at hS
    refine Calls.mono hS ?_
    rintro e w' ⟨rfl,os,rfl⟩
    have hd : xs.toList = ks := sorted_keys (xs := xs) (d' := xs) ⟨rfl,fun _ _ => rfl,List.Perm.refl _⟩ (fun i j _ h1 h2 => by omega) hp hk
    refine ⟨(upd_grow w os).upd,?_⟩
    rw [(upd_grow w os).blk (blk_lt hrow) (fun h => h),hrow,hd]
end Ms

namespace Ms
open Go.World renaming size_alloc → qI
open Ms renaming size_wr → qJ,size_drew → qK,not_noB → qL
open W renaming seqR → qA,seq → qB,regR → qC,condK → qD,block → qE,skip → qF,ret → qG,exit → qH
open Nat renaming reduceEqDiff → n0,reduceAdd → n1,reduceMul → n2,reduceSub → n3,reduceLT → n4,reduceLeDiff → n5
open Int renaming reduceEq → i0,reduceLT → i1,reduceLE → i2,reduceNeg → i3,reduceAdd → i4,reduceSub → i5,reduceMul → i6,reduceToNat → i7
set_option maxRecDepth 4000
open Go Go.Proofs Go.Shelf
attribute [local congr] W_congr WPsq_congr WPp_congr optK_congr addrK_congr intK_congr boolK_congr sliceK_congr tupleK_congr funcK_congr Fn_congr rawK_congr takeK_congr stepK_congr convK_congr aggK_congr

set_option maxHeartbeats 1000000 in
theorem Each_fn {ok : Blocks} (F : Nat) (hF : callable Tryz.prog F = true) (lb : Array Value) {tb to : Nat} {x : Blk} {m : Value} {u : List TagD} (w : World)
    (hb : blk w tb = some x) (hm : x.1[to]? = some m) (ht : TagsM ok w m u) (hs : (u.map (·.1)).Pairwise (· < ·)) (hlen : u.length ≤ 32767)
    (S : Nat → Prop) (hS1 : ¬ S tb) (hS2 : ∀ b,b < w.heap.size → ok b → ¬ S b) (hS3 : ∀ b,S b → b < w.heap.size)
    (I : World → List TagD → World → Prop) (h0 : ∀ wl,Ext w wl → I wl [] wl)
    (hstep : ∀ wl,Ext w wl → ∀ done y vv w1,(done ++ [y]) <+: u → I wl done w1 → Upd S wl w1 → BytesV ok w vv y.2 → y.1 < 2 ^ 32 → Fn Tryz.prog F (#[.int .u32 y.1,vv] ++ lb) w1 fun _ w2 => I wl (done ++ [y]) w2 ∧ Upd S wl w2) :
    Fn Tryz.prog 77 #[.pointer (some ⟨tb,to,none⟩),.func (.func F) #[] lb] w fun _ w' => ∃ wl,Ext w wl ∧ I wl u w' ∧ Upd S wl w' := by
  have hbl := blk_lt hb
  refine fn_of_W Tryz.func77 rfl Tryz.results77 Tryz.ntmps77 rfl ?_
  rcases ht with ⟨rfl,rfl⟩ | ⟨r,es,clock,rfl,hok,hr,hsz,he,hinj⟩
  · repeat ((first | refine qA rfl ?_|apply qB|refine qC rfl ?_|apply qD|apply qE|apply qF|apply qG|apply qH);try simp (disch:=(first|omega|(simp only [qI,qJ,qK]<;>omega)|exact qL _)) only [go_sem,↓reduceIte,n0,reduceCtorEq,n1,n2,n3,n4,n5,i0,i1,i2,i3,i4,i5,i6,i7,hb,hm])
    refine wp_len_nil tagsT rfl ?_
    simp (disch:=(first|omega|(simp only [qI,qJ,qK]<;>omega)|exact qL _)) only [go_sem,↓reduceIte,n0,reduceCtorEq,n1,n2,n3,n4,n5,i0,i1,i2,i3,i4,i5,i6,i7]
    repeat ((first | refine qA rfl ?_|apply qB|refine qC rfl ?_|apply qD|apply qE|apply qF|apply qG|apply qH);try simp (disch:=(first|omega|(simp only [qI,qJ,qK]<;>omega)|exact qL _)) only [go_sem,↓reduceIte,n0,reduceCtorEq,n1,n2,n3,n4,n5,i0,i1,i2,i3,i4,i5,i6,i7])
    exact ⟨w,Upd.refl _ _,h0 w (Upd.refl _ _),Upd.refl _ _⟩
  have hrl := heap_lt hr
  repeat ((first | refine qA rfl ?_|apply qB|refine qC rfl ?_|apply qD|apply qE|apply qF|apply qG|apply qH);try simp (disch:=(first|omega|(simp only [qI,qJ,qK]<;>omega)|exact qL _)) only [go_sem,↓reduceIte,n0,reduceCtorEq,n1,n2,n3,n4,n5,i0,i1,i2,i3,i4,i5,i6,i7,hb,hm])
  refine wp_len_map tagsT rfl hr ?_
  by_cases hz : u.length = 0
  · have hz1 : (es.size : Int) = 0 := by omega
    obtain rfl : u = [] := List.eq_nil_of_length_eq_zero hz
    simp (disch:=(first|omega|(simp only [qI,qJ,qK]<;>omega)|exact qL _)) only [go_sem,↓reduceIte,n0,reduceCtorEq,n1,n2,n3,n4,n5,i0,i1,i2,i3,i4,i5,i6,i7,hz1]
    repeat ((first | refine qA rfl ?_|apply qB|refine qC rfl ?_|apply qD|apply qE|apply qF|apply qG|apply qH);try simp (disch:=(first|omega|(simp only [qI,qJ,qK]<;>omega)|exact qL _)) only [go_sem,↓reduceIte,n0,reduceCtorEq,n1,n2,n3,n4,n5,i0,i1,i2,i3,i4,i5,i6,i7])
    exact ⟨w,Upd.refl _ _,h0 w (Upd.refl _ _),Upd.refl _ _⟩
  have hz1 : ¬ (es.size : Int) = 0 := by omega
  simp (disch:=(first|omega|(simp only [qI,qJ,qK]<;>omega)|exact qL _)) only [go_sem,↓reduceIte,n0,reduceCtorEq,n1,n2,n3,n4,n5,i0,i1,i2,i3,i4,i5,i6,i7,hz1]
  repeat ((first | refine qA rfl ?_|apply qB|refine qC rfl ?_|apply qD|apply qE|apply qF|apply qG|apply qH);try simp (disch:=(first|omega|(simp only [qI,qJ,qK]<;>omega)|exact qL _)) only [go_sem,↓reduceIte,n0,reduceCtorEq,n1,n2,n3,n4,n5,i0,i1,i2,i3,i4,i5,i6,i7,hb,hm])
  refine wp_len_map tagsT rfl hr ?_
  simp (disch:=(first|omega|(simp only [qI,qJ,qK]<;>omega)|exact qL _)) only [go_sem,↓reduceIte,n0,reduceCtorEq,n1,n2,n3,n4,n5,i0,i1,i2,i3,i4,i5,i6,i7]
  refine wp_make (T := 127) (E := 53) (size := 1) (bytes := 4) (z := .int .u32 0) (l := 0) (c := es.size) (kl := .i64) (kc := .i64) (by kernel_rfl) (by kernel_rfl) (by simp (disch:=(first|omega|(simp only [qI,qJ,qK]<;>omega)|exact qL _)) only [go_sem,↓reduceIte,n0,reduceCtorEq,n1,n2,n3,n4,n5,i0,i1,i2,i3,i4,i5,i6,i7];rfl) (by simp (disch:=(first|omega|(simp only [qI,qJ,qK]<;>omega)|exact qL _)) only [go_sem,↓reduceIte,n0,reduceCtorEq,n1,n2,n3,n4,n5,i0,i1,i2,i3,i4,i5,i6,i7]) (by omega) (by omega) (by omega) ?_
  simp (disch:=(first|omega|(simp only [qI,qJ,qK]<;>omega)|exact qL _)) only [go_sem,↓reduceIte,n0,reduceCtorEq,n1,n2,n3,n4,n5,i0,i1,i2,i3,i4,i5,i6,i7]
  have hsl : es.size ≤ 32767 := by omega
  generalize hw2 : (wr ((w.alloc (.cells (madeCells #[.int .u32 0] (es.size * 1)) 53)).alloc (.cells #[.slice none 0 0] 127)) (w.heap.size + 1) 0 [.slice (some ⟨w.heap.size,0,none⟩) 0 es.size]) = w2
  have hE2 : Ext w w2 := by rw [← hw2];exact (Upd.alloc (Upd.alloc (Upd.refl _ _) _) _).wr _ _ (.inl (by omega))
  have hz2 : w2.heap.size = w.heap.size + 2 := by rw [← hw2];simp only [size_wr,World.size_alloc]
  have hrow2 : blk w2 w.heap.size = some ((List.replicate es.size (.int .u32 0)).toArray,53,(0,0)) := by rw [← hw2];simp (disch:=(first|omega|(simp only [qI,qJ,qK]<;>omega)|exact qL _)) only [go_sem,↓reduceIte,n0,reduceCtorEq,n1,n2,n3,n4,n5,i0,i1,i2,i3,i4,i5,i6,i7,made_one,Nat.mul_one]
  have hown2 : Own w.heap.size w2 53 1 (.slice (some ⟨w.heap.size,0,none⟩) 0 es.size) 0 [] := ⟨rfl,.inr ⟨w.heap.size,es.size,List.replicate es.size (.int .u32 0),(0,0),rfl,Nat.le_refl _,hrow2,by simp,thaw_00 _ _,Nat.zero_le _⟩⟩
  have hbx2 : blk w2 (w.heap.size + 1) = some (#[.slice (some ⟨w.heap.size,0,none⟩) 0 es.size],127,(0,0)) := by rw [← hw2];simp (disch:=(first|omega|(simp only [qI,qJ,qK]<;>omega)|exact qL _)) only [go_sem,↓reduceIte,n0,reduceCtorEq,n1,n2,n3,n4,n5,i0,i1,i2,i3,i4,i5,i6,i7]
  have hb2 : blk w2 tb = some x := hE2.blk_some hb id
  have hr2 : w2.heap[r]? = some (.map es clock) := by rw [hE2.keep r hrl id];exact hr
  clear hw2 hrow2
  repeat ((first | refine qA rfl ?_|apply qB|refine qC rfl ?_|apply qD|apply qE|apply qF|apply qG|apply qH);try simp (disch:=(first|omega|(simp only [qI,qJ,qK]<;>omega)|exact qL _)) only [go_sem,↓reduceIte,n0,reduceCtorEq,n1,n2,n3,n4,n5,i0,i1,i2,i3,i4,i5,i6,i7,hb2,hm])
  refine wp_range tagsT rfl hr2 ?_
  simp (disch:=(first|omega|(simp only [qI,qJ,qK]<;>omega)|exact qL _)) only [go_sem,↓reduceIte,n0,reduceCtorEq,n1,n2,n3,n4,n5,i0,i1,i2,i3,i4,i5,i6,i7]
  generalize hw3 : w2.alloc (.mapIter (some r) clock #[] clock) = w3
  have hE3 : Ext w w3 := by rw [← hw3];exact hE2.alloc _
  have hz3 : w3.heap.size = w2.heap.size + 1 := by rw [← hw3,World.size_alloc]
  have hit3 : w3.heap[w2.heap.size]? = some (.mapIter (some r) clock #[] clock) := by
    rw [← hw3];show (w2.heap.push _)[w2.heap.size]? = _;simp
  have hown3 : Own w.heap.size w3 53 1 (.slice (some ⟨w.heap.size,0,none⟩) 0 es.size) 0 [] := by rw [← hw3];exact hown2.alloc _
  have hbx3 : blk w3 (w.heap.size + 1) = some (#[.slice (some ⟨w.heap.size,0,none⟩) 0 es.size],127,(0,0)) := by rw [← hw3,blk_alloc_old (by omega)];exact hbx2
  clear hw3 hown2 hbx2 hb2 hr2
  have hold := tm_old hsz he
  have hnod := tm_nodup hinj
  have hKU := tm_keysU hsz he
  have hkeys := tm_keys hsz he
  repeat ((first | refine qA rfl ?_|apply qB|refine qC rfl ?_|apply qD|apply qE|apply qF|apply qG|apply qH);try simp (disch:=(first|omega|(simp only [qI,qJ,qK]<;>omega)|exact qL _)) only [go_sem,↓reduceIte,n0,reduceCtorEq,n1,n2,n3,n4,n5,i0,i1,i2,i3,i4,i5,i6,i7])
  refine W.exitJ 0 (fun ρ w' => ∃ seen xs l rest v,Ranged es seen xs l rest ∧ (leftOf es seen).size = 0 ∧ blk w' (w.heap.size + 1) = some (#[v],127,(0,0)) ∧ Own w.heap.size w' 53 1 v xs.length (xs.map u32V) ∧ Ext w w' ∧
      ρ 0 = .pointer (some ⟨tb,to,none⟩) ∧ ρ 1 = .func (.func F) #[] lb ∧ ρ 4 = .pointer (some ⟨w.heap.size + 1,0,none⟩))
    (W.loop (fun ρ w' => ∃ seen xs l rest v,Ranged es seen xs l rest ∧ w'.heap[w2.heap.size]? = some (.mapIter (some r) clock seen clock) ∧ blk w' (w.heap.size + 1) = some (#[v],127,(0,0)) ∧ Own w.heap.size w' 53 1 v xs.length (xs.map u32V) ∧ Ext w w' ∧
      ρ 0 = .pointer (some ⟨tb,to,none⟩) ∧ ρ 1 = .func (.func F) #[] lb ∧ ρ 4 = .pointer (some ⟨w.heap.size + 1,0,none⟩) ∧ ρ 24 = .pointer (some ⟨w2.heap.size,0,none⟩))
      (fun _ w' => es.size - lenBox (blk w' (w.heap.size + 1))) ?_ ?_) ?_
  · refine ⟨#[],[],[],es.toList,_,Ranged.start es,hit3,hbx3,hown3,hE3,?_,?_,?_,?_⟩ <;> simp (disch:=(first|omega|(simp only [qI,qJ,qK]<;>omega)|exact qL _)) only [go_sem,↓reduceIte,n0,reduceCtorEq,n1,n2,n3,n4,n5,i0,i1,i2,i3,i4,i5,i6,i7]
  · rintro ρ w4 ⟨seen,xs,l,rest,v,hR,hit,hbx,hown,hE4,h0',h1',h4,h24⟩
    have hr4 : w4.heap[r]? = some (.map es clock) := by rw [hE4.keep r hrl id];exact hr
    have hz4 := hE4.size
    have hitl := heap_lt hit
    obtain ⟨va,vc,rfl,hvc⟩ := hown.shape
    have hlb : lenBox (blk w4 (w.heap.size + 1)) = xs.length := by rw [hbx];rfl
    repeat ((first | refine qA rfl ?_|apply qB|refine qC rfl ?_|apply qD|apply qE|apply qF|apply qG|apply qH);try simp (disch:=(first|omega|(simp only [qI,qJ,qK]<;>omega)|exact qL _)) only [go_sem,↓reduceIte,n0,reduceCtorEq,n1,n2,n3,n4,n5,i0,i1,i2,i3,i4,i5,i6,i7])
    refine wp_next (r := w2.heap.size) (by simp (disch:=(first|omega|(simp only [qI,qJ,qK]<;>omega)|exact qL _)) only [go_sem,↓reduceIte,n0,reduceCtorEq,n1,n2,n3,n4,n5,i0,i1,i2,i3,i4,i5,i6,i7,h24]) hit hr4 hold (Nat.le_refl _) ?_ ?_
    · intro hl0
      simp (disch:=(first|omega|(simp only [qI,qJ,qK]<;>omega)|exact qL _)) only [go_sem,↓reduceIte,n0,reduceCtorEq,n1,n2,n3,n4,n5,i0,i1,i2,i3,i4,i5,i6,i7]
      repeat ((first | refine qA rfl ?_|apply qB|refine qC rfl ?_|apply qD|apply qE|apply qF|apply qG|apply qH);try simp (disch:=(first|omega|(simp only [qI,qJ,qK]<;>omega)|exact qL _)) only [go_sem,↓reduceIte,n0,reduceCtorEq,n1,n2,n3,n4,n5,i0,i1,i2,i3,i4,i5,i6,i7])
      exact ⟨seen,xs,l,rest,_,hR,hl0,hbx,hown,hE4,h0',h1',h4⟩
    · intro e hel w5 hw5
      obtain ⟨rest',hR',hlt⟩ := hR.step hel
      obtain ⟨hee,_⟩ := mem_leftOf hel
      obtain ⟨kn,hkn⟩ := hKU e hee
      have hknn : e.key = u32V (keyN e) := by
        obtain ⟨i,hi,rfl⟩ := List.getElem_of_mem hee
        simp only [Array.length_toList] at hi
        have := (he i (by omega) hi).1.key
        simp only [Array.getElem_toList,keyN,this]
        simp [u32V]
      have hE45 : Ext w4 w5 := by rcases hw5 with rfl | rfl;exact Upd.refl _ _;exact (Upd.refl _ _).drew
      have hh45 : w5.heap = w4.heap := by rcases hw5 with rfl | rfl <;> rfl
      generalize hw6 : Go.ChangeMaps.setBlock w5 w2.heap.size (.mapIter (some r) clock (seen.push e.born) clock) = w6
      have hE6 : Ext w w6 := by rw [← hw6];exact (hE4.trans hE45).setBlock _ _ (.inl (by omega))
      have hU6 : Upd (fun b => b = w2.heap.size) w5 w6 := by rw [← hw6];exact (Upd.refl _ _).setBlock _ _ (.inr rfl)
      have hz6 : w6.heap.size = w4.heap.size := by rw [← hw6,setBlock_size,hh45]
      have hit6 : w6.heap[w2.heap.size]? = some (.mapIter (some r) clock (seen.push e.born) clock) := by rw [← hw6,setBlock_same _ _ _ (by rw [hh45];exact hitl)]
      have hr6 : w6.heap[r]? = some (.map es clock) := by rw [hE6.keep r hrl id];exact hr
      have hbx5 : blk w5 (w.heap.size + 1) = some (#[.slice va xs.length vc],127,(0,0)) := by rw [blk_of_heap (w := w4) (w' := w5) (by rw [hh45])];exact hbx
      have hbx6 : blk w6 (w.heap.size + 1) = some (#[.slice va xs.length vc],127,(0,0)) := hU6.blk_some hbx5 (by omega)
      have hne : ¬ ownB (.slice va xs.length vc) w2.heap.size := own_ne hown fun y hy => by
        unfold blk at hy;rw [hit] at hy;cases hy
      have hown6 : Own w.heap.size w6 53 1 (.slice va xs.length vc) xs.length (xs.map u32V) := Own.upd (Own.upd hown hE45 fun _ _ h => h) hU6 fun b hb e => hne (e ▸ hb)
      clear hw6
      have hkv : e.key = .int .u32 (keyN e : Nat) := hknn
      clear hknn hkn
      generalize keyN e = kk at *
      simp (disch:=(first|omega|(simp only [qI,qJ,qK]<;>omega)|exact qL _)) only [go_sem,↓reduceIte,n0,reduceCtorEq,n1,n2,n3,n4,n5,i0,i1,i2,i3,i4,i5,i6,i7]
      repeat ((first | refine qA rfl ?_|apply qB|refine qC rfl ?_|apply qD|apply qE|apply qF|apply qG|apply qH);try simp (disch:=(first|omega|(simp only [qI,qJ,qK]<;>omega)|exact qL _)) only [go_sem,↓reduceIte,n0,reduceCtorEq,n1,n2,n3,n4,n5,i0,i1,i2,i3,i4,i5,i6,i7])
      refine wp_entry (e := e) (by simp (disch:=(first|omega|(simp only [qI,qJ,qK]<;>omega)|exact qL _)) only [go_sem,↓reduceIte,n0,reduceCtorEq,n1,n2,n3,n4,n5,i0,i1,i2,i3,i4,i5,i6,i7,h24]) hit6 hr6 hee hnod ?_
      simp (disch:=(first|omega|(simp only [qI,qJ,qK]<;>omega)|exact qL _)) only [go_sem,↓reduceIte,n0,reduceCtorEq,n1,n2,n3,n4,n5,i0,i1,i2,i3,i4,i5,i6,i7,hkv]
      repeat ((first | refine qA rfl ?_|apply qB|refine qC rfl ?_|apply qD|apply qE|apply qF|apply qG|apply qH);try simp (disch:=(first|omega|(simp only [qI,qJ,qK]<;>omega)|exact qL _)) only [go_sem,↓reduceIte,n0,reduceCtorEq,n1,n2,n3,n4,n5,i0,i1,i2,i3,i4,i5,i6,i7,hbx6,h4,hkv])
      refine wp_append ap_127_127 (m := 1) (news := [.int .u32 kk]) (n := xs.length) (cs := xs.map u32V) (v := .slice va xs.length vc) ?_ rfl (hown6.alloc (.cells #[.int .u32 kk] 53)) ?_ (Src.blk (fr := (0,0)) (T := 53) (blk_alloc_new rfl) rfl rfl) ?_ ?_ ?_
      · simp (disch:=(first|omega|(simp only [qI,qJ,qK]<;>omega)|exact qL _)) only [go_sem,↓reduceIte,n0,reduceCtorEq,n1,n2,n3,n4,n5,i0,i1,i2,i3,i4,i5,i6,i7]
      · simp only [List.all_map,List.all_eq_true];intro _ _;rfl
      · simp only [World.size_alloc];omega
      · have := hR.len;omega
      intro v' w7 ho7 hu7 hfr7
      obtain ⟨a7,c7,rfl,hc7⟩ := ho7.shape
      have hne6 : ¬ ownB (.slice va xs.length vc) (w.heap.size + 1) := own_ne hown6 fun y hy => by rw [hbx6] at hy;cases hy;exact (by decide : (127 : Nat) ≠ 53)
      have hit6' : ¬ ownB (.slice va xs.length vc) w2.heap.size := hne
      have hE7 : Ext w w7 := Upd.more (hE6.alloc (.cells #[.int .u32 kk] 53)) hu7 fun b hb ho => by have := hown6.above ho;omega
      have hbx7 : blk w7 (w.heap.size + 1) = some (#[.slice va xs.length vc],127,(0,0)) := hu7.blk_some (by rw [blk_alloc_old (by omega)];exact hbx6) hne6
      have hit7 : w7.heap[w2.heap.size]? = some (.mapIter (some r) clock (seen.push e.born) clock) := by
        rw [hu7.keep _ (by simp only [World.size_alloc];omega) hit6',RowKit.Below.heap_alloc _ _ _ (by omega)];exact hit6
      simp (disch:=(first|omega|(simp only [qI,qJ,qK]<;>omega)|exact qL _)) only [go_sem,↓reduceIte,n0,reduceCtorEq,n1,n2,n3,n4,n5,i0,i1,i2,i3,i4,i5,i6,i7,hbx7,h4]
      generalize hw8 : wr w7 (w.heap.size + 1) 0 [.slice a7 (xs.length + 1) c7] = w8
      have hU8 : Upd (fun b => b = w.heap.size + 1) w7 w8 := by rw [← hw8];exact (Upd.refl _ _).wr _ _ (.inr rfl)
      have hE8 : Ext w w8 := by rw [← hw8];exact hE7.wr _ _ (.inl (by omega))
      have hbx8 : blk w8 (w.heap.size + 1) = some (#[.slice a7 (xs.length + 1) c7],127,(0,0)) := by rw [← hw8,blk_wr_eq,hbx7];rfl
      have hne7 : ¬ ownB (.slice a7 (xs.length + 1) c7) (w.heap.size + 1) := own_ne ho7 fun y hy => by rw [hbx7] at hy;cases hy;exact (by decide : (127 : Nat) ≠ 53)
      have hown8 : Own w.heap.size w8 53 1 (.slice a7 (xs.length + 1) c7) (xs ++ [kk]).length ((xs ++ [kk]).map u32V) := by
        have := ho7.upd hU8 (fun b hb e => hne7 (e ▸ hb))
        simpa [u32V] using this
      have hit8 : w8.heap[w2.heap.size]? = some (.mapIter (some r) clock (seen.push e.born) clock) := by rw [hU8.keep _ (heap_lt hit7) (by omega)];exact hit7
      have hlb8 : lenBox (blk w8 (w.heap.size + 1)) = xs.length + 1 := by rw [hbx8];rfl
      clear hw8
      simp (disch:=(first|omega|(simp only [qI,qJ,qK]<;>omega)|exact qL _)) only [go_sem,↓reduceIte,n0,reduceCtorEq,n1,n2,n3,n4,n5,i0,i1,i2,i3,i4,i5,i6,i7,h0',h1',h4,h24]
      refine ⟨⟨_,_,_,_,_,hR',hit8,rfl,hown8,hE8⟩,?_⟩
      rw [hlb];show es.size - (xs.length + 1) < _;omega
  · rintro ρ w4 ⟨seen,xs,l,rest,v,hR,hl0,hbx,hown,hE4,h0',h1',h4⟩
    have hperm := hR.done hl0 hnod
    rw [hkeys] at hperm
    have hxl : xs.length = u.length := by rw [hperm.length_eq,List.length_map]
    rcases hown.2 with ⟨_,h⟩ | ⟨g,cap,rest2,fr,rfl,hg,hgb,hgl,hth,hcap⟩
    · omega
    have hne : w.heap.size + 1 ≠ g := fun e => by
      rw [e] at hbx;rw [hbx] at hgb;simp at hgb
    have hgl4 := blk_lt hgb
    repeat ((first | refine qA rfl ?_|apply qB|refine qC rfl ?_|apply qD|apply qE|apply qF|apply qG|apply qH);try simp (disch:=(first|omega|(simp only [qI,qJ,qK]<;>omega)|exact qL _)) only [go_sem,↓reduceIte,n0,reduceCtorEq,n1,n2,n3,n4,n5,i0,i1,i2,i3,i4,i5,i6,i7,hbx,h4])
    refine (sort_fn (row := g) (c := cap) (b4 := w.heap.size + 1) (N := cap * 1) xs.toArray w4 hgb hth (by simp;omega) hbx rfl hne (u.map (·.1)) (by simpa using hperm) hs (by simp;omega)).mono ?_
    rintro r5 w5 ⟨hU5,hg5⟩
    have hE5 : Ext w w5 := Upd.more hE4 hU5 fun b hb e => by omega
    have hbx5 : blk w5 (w.heap.size + 1) = some (#[.slice (some ⟨g,0,none⟩) xs.length cap],127,(0,0)) := hU5.blk_some hbx hne
    repeat ((first | refine qA rfl ?_|apply qB|refine qC rfl ?_|apply qD|apply qE|apply qF|apply qG|apply qH);try simp (disch:=(first|omega|(simp only [qI,qJ,qK]<;>omega)|exact qL _)) only [go_sem,↓reduceIte,n0,reduceCtorEq,n1,n2,n3,n4,n5,i0,i1,i2,i3,i4,i5,i6,i7,hbx5,h4])
    refine W.exitJ 2 (fun ρ w' => I w5 u w' ∧ Upd S w5 w')
      (W.loop (fun ρ w' => ∃ j : Nat,j ≤ u.length ∧ ρ 39 = .int .i64 j ∧ ρ 38 = .int .i64 xs.length ∧ ρ 37 = .slice (some ⟨g,0,none⟩) xs.length cap ∧ ρ 0 = .pointer (some ⟨tb,to,none⟩) ∧ ρ 1 = .func (.func F) #[] lb ∧ I w5 (u.take j) w' ∧ Upd S w5 w')
        (fun ρ _ => u.length - (RowKit.intOf (ρ 39)).toNat) ?_ ?_) ?_
    · refine ⟨0,Nat.zero_le _,?_,?_,?_,?_,?_,h0 w5 hE5,Upd.refl _ _⟩ <;> simp (disch:=(first|omega|(simp only [qI,qJ,qK]<;>omega)|exact qL _)) only [go_sem,↓reduceIte,n0,reduceCtorEq,n1,n2,n3,n4,n5,i0,i1,i2,i3,i4,i5,i6,i7,h0',h1',h4]
      rfl
    · rintro ρ w6 ⟨j,hj,h39,h38,h37,h0',h1',hI,hU⟩
      by_cases hlt : j < u.length
      · have hnS : ∀ b,w.heap.size ≤ b → ¬ S b := fun b hb h => by have := hS3 b h;omega
        have hg6 : blk w6 g = some (((u.map (·.1)).map u32V ++ rest2).toArray,53,fr) := hU.blk_some hg5 (hnS g hg)
        have hb6 : blk w6 tb = some x := hU.blk_some (hE5.blk_some hb id) hS1
        have hr6 : w6.heap[r]? = some (.map es clock) := by
          rw [hU.keep r (Nat.lt_of_lt_of_le hrl hE5.size) (hS2 r hrl hok),hE5.keep r hrl id];exact hr
        have hlt' : (j : Int) < (xs.length : Int) := by omega
        have hlt2 : j < xs.length := by omega
        have hx : (((u.map (·.1)).map u32V ++ rest2).toArray)[j]? = some (.int .u32 (u[j].1 : Nat)) := by
          rw [List.getElem?_toArray,List.getElem?_append_left (by simp;omega)]
          simp [hlt,u32V]
        obtain ⟨hte,_⟩ := he j hlt (by omega)
        have hpre : u.take j ++ [u[j]] <+: u := by
          rw [← List.take_succ_eq_append_getElem hlt];exact List.take_prefix _ _
        have hst := hstep w5 hE5 (u.take j) u[j] es[j].val w6 hpre hI hU hte.val hte.num
        have hsucc : u.take (j + 1) = u.take j ++ [u[j]] := List.take_succ_eq_append_getElem hlt
        have hk3 : ∀ k (hk : k < es.size),k < j → es[k].key ≠ .int .u32 (u[j].1 : Nat) := by
          intro k hk hkj h
          rw [(he k (by omega) hk).1.key] at h
          simp only [Value.int.injEq,true_and] at h
          have := List.pairwise_iff_getElem.1 hs k j (by simp;omega) (by simp;omega) hkj
          simp only [List.getElem_map] at this
          omega
        have hk2 := hte.key
        generalize u[j] = y at *
        generalize hev : es[j].val = ev at *
        repeat ((first | refine qA rfl ?_|apply qB|refine qC rfl ?_|apply qD|apply qE|apply qF|apply qG|apply qH);try simp (disch:=(first|omega|(simp only [qI,qJ,qK]<;>omega)|exact qL _)) only [go_sem,↓reduceIte,n0,reduceCtorEq,n1,n2,n3,n4,n5,i0,i1,i2,i3,i4,i5,i6,i7,h39,h38,h37,hg6,hx,Int.toNat_natCast,Nat.mul_one,hb6,hm,h0',h1'])
        refine wp_lookup (i := j) (n := (y.1 : Int)) tagsT u32T (by simp (disch:=(first|omega|(simp only [qI,qJ,qK]<;>omega)|exact qL _)) only [go_sem,↓reduceIte,n0,reduceCtorEq,n1,n2,n3,n4,n5,i0,i1,i2,i3,i4,i5,i6,i7]) (by simp (disch:=(first|omega|(simp only [qI,qJ,qK]<;>omega)|exact qL _)) only [go_sem,↓reduceIte,n0,reduceCtorEq,n1,n2,n3,n4,n5,i0,i1,i2,i3,i4,i5,i6,i7]) hr6 hKU (by omega) hk2 hk3 ?_
        simp (disch:=(first|omega|(simp only [qI,qJ,qK]<;>omega)|exact qL _)) only [go_sem,↓reduceIte,n0,reduceCtorEq,n1,n2,n3,n4,n5,i0,i1,i2,i3,i4,i5,i6,i7,hev,hF,h1']
        refine hst.mono ?_
        rintro r7 w7 ⟨hI7,hU7⟩
        repeat ((first | refine qA rfl ?_|apply qB|refine qC rfl ?_|apply qD|apply qE|apply qF|apply qG|apply qH);try simp (disch:=(first|omega|(simp only [qI,qJ,qK]<;>omega)|exact qL _)) only [go_sem,↓reduceIte,n0,reduceCtorEq,n1,n2,n3,n4,n5,i0,i1,i2,i3,i4,i5,i6,i7,h39])
        refine ⟨⟨j + 1,by omega,?_,h38,h37,h0',h1',by rw [hsucc];exact hI7,hU7⟩,?_⟩
        · rfl
        · simp only [RowKit.intOf];omega
      · have hlt' : ¬ (j : Int) < (xs.length : Int) := by omega
        repeat ((first | refine qA rfl ?_|apply qB|refine qC rfl ?_|apply qD|apply qE|apply qF|apply qG|apply qH);try simp (disch:=(first|omega|(simp only [qI,qJ,qK]<;>omega)|exact qL _)) only [go_sem,↓reduceIte,n0,reduceCtorEq,n1,n2,n3,n4,n5,i0,i1,i2,i3,i4,i5,i6,i7,h39,h38])
        have e : u.take j = u := List.take_of_length_le (by omega)
        rw [e] at hI
        exact ⟨hI,hU⟩
    · rintro ρ w6 ⟨hI,hU⟩
      repeat ((first | refine qA rfl ?_|apply qB|refine qC rfl ?_|apply qD|apply qE|apply qF|apply qG|apply qH);try simp (disch:=(first|omega|(simp only [qI,qJ,qK]<;>omega)|exact qL _)) only [go_sem,↓reduceIte,n0,reduceCtorEq,n1,n2,n3,n4,n5,i0,i1,i2,i3,i4,i5,i6,i7])
      exact ⟨w5,hE5,hI,hU⟩

theorem oneTags_len : ∀ (l : List TagD),(∀ y ∈ l,y.1 < 2 ^ 32 ∧ y.2.length ≤ 32767) → (l.flatMap oneTag).length ≤ l.length * 32777
  | [],_ => by simp
  | y :: l,h => by
    have ih := oneTags_len l fun z hz => h z (by simp [hz])
    obtain ⟨h1,h2⟩ := h y (by simp)
    have a := uvarS_len 4 y.1 (by omega)
    have b := uvarS_len 4 y.2.length (by omega)
    simp only [List.flatMap_cons,List.length_append,List.length_cons,oneTag]
    omega

theorem AppendEach_fn {B : Nat} {ok : Blocks} (v : Value) (s : List UInt8) (w : World) (ho : OwnBy 5 B w v s) (hB : B ≤ w.heap.size) {tb to : Nat} {x : Blk} {m : Value} {u : List TagD} (hb : blk w tb = some x) (hm : x.1[to]? = some m) (ht : TagsM ok w m u)
    (hs : (u.map (·.1)).Pairwise (· < ·)) (hlen : u.length ≤ 32767) (hval : ∀ y ∈ u,y.1 < 2 ^ 32 ∧ y.2.length ≤ 32767) (hd : ∀ b,b < w.heap.size → ok b → ¬ ownB v b) (hdt : ¬ ownB v tb) (hl : s.length ≤ 2 ^ 42) :
    Fn Tryz.prog 44 #[.pointer (some ⟨tb,to,none⟩),v] w fun r w' => AppR 5 B w v s (u.flatMap oneTag) r w' := by
  obtain ⟨a,c,rfl,hc⟩ := ho.len
  have hbl := blk_lt hb
  refine fn_of_W Tryz.func44 rfl Tryz.results44 Tryz.ntmps44 rfl ?_
  repeat ((first | refine qA rfl ?_|apply qB|refine qC rfl ?_|apply qD|apply qE|apply qF|apply qG|apply qH);try simp (disch:=(first|omega|(simp only [qI,qJ,qK]<;>omega)|exact qL _)) only [go_sem,↓reduceIte,n0,reduceCtorEq,n1,n2,n3,n4,n5,i0,i1,i2,i3,i4,i5,i6,i7])
  generalize hw1 : w.alloc (.cells #[.slice a s.length c] 22) = w1
  have hE1 : Ext w w1 := by rw [← hw1];exact Upd.alloc (Upd.refl _ _) _
  have hz1 : w1.heap.size = w.heap.size + 1 := by rw [← hw1,World.size_alloc]
  have hbx1 : blk w1 w.heap.size = some (#[.slice a s.length c],22,(0,0)) := by rw [← hw1];exact blk_alloc_new rfl
  have hne : ¬ ownB (.slice a s.length c) w.heap.size := fun h => by have := Own.below ho h;omega
  have hb1 : blk w1 tb = some x := hE1.blk_some hb id
  have ht1 : TagsM (fun b => b < w.heap.size ∧ ok b) w1 m u := (ht.weaken fun b hb hk => ⟨hb,hk⟩).keep (hE1.keeps _)
  clear hw1
  refine (Each_fn (ok := fun b => b < w.heap.size ∧ ok b) 78 ca_78 #[.pointer (some ⟨w.heap.size,0,none⟩)] w1 hb1 hm ht1 hs hlen (fun b => b = w.heap.size ∨ ownB (.slice a s.length c) b) ?_ ?_ ?_
    (fun wl done w' => ∃ v',BoxA 5 22 B w.heap.size wl (.slice a s.length c) (s ++ done.flatMap oneTag) w' v') ?_ ?_).mono ?_
  · rintro (h | h)
    · omega
    · exact hdt h
  · rintro b hb1 ⟨hb2,hk⟩ (h | h)
    · omega
    · exact hd b hb2 hk h
  · rintro b (h | h)
    · omega
    · have := Own.below ho h;omega
  · intro wl hE
    refine ⟨_,?_,hE.blk_some hbx1 id,Upd.refl _ _,fun b h => .inl h,hne⟩
    rw [show ([] : List TagD).flatMap oneTag = [] from rfl,List.append_nil]
    exact Own.upd (Own.upd ho hE1 fun _ _ h => h) hE fun _ _ h => h
  · rintro wl hE done y vv w2 hpre ⟨v',hbox⟩ hU hvv hy
    have hmem : ∀ z ∈ done ++ [y],z ∈ u := fun z hz => hpre.subset hz
    have hpl := hpre.length_le
    have hyv := hval y (hmem y (by simp))
    have hds := oneTags_len done fun z hz => hval z (hmem z (by simp [hz]))
    simp only [List.length_append,List.length_cons,List.length_nil] at hpl
    have hzE := hE.size
    have hzU := hU.size
    refine (one_fn (ok := fun b => b < w.heap.size ∧ ok b) _ v' _ wl w2 hbox (by omega) (by omega) y.1 (by omega) vv y.2 (hvv.keep (hE.keeps _)) ?_ hyv.2 (by rw [List.length_append];omega)).mono ?_
    · rintro b hb1 ⟨hb2,hk⟩ (h | h)
      · omega
      · exact hd b hb2 hk h
    · rintro _ w3 ⟨v3,h3⟩
      refine ⟨⟨v3,?_⟩,h3.upd⟩
      rw [List.flatMap_append,← List.append_assoc,show ([y] : List TagD).flatMap oneTag = oneTag y by simp]
      exact h3
  · rintro r w2 ⟨wl,hE,⟨v',hbox⟩,hU⟩
    have hbx := hbox.box
    repeat ((first | refine qA rfl ?_|apply qB|refine qC rfl ?_|apply qD|apply qE|apply qF|apply qG|apply qH);try simp (disch:=(first|omega|(simp only [qI,qJ,qK]<;>omega)|exact qL _)) only [go_sem,↓reduceIte,n0,reduceCtorEq,n1,n2,n3,n4,n5,i0,i1,i2,i3,i4,i5,i6,i7,hbx])
    refine ⟨hbox.own,?_,fun b h => (hbox.frame b h).imp id fun h => ?_⟩
    · exact Upd.more ((hE1.trans hE).mono fun _ h => h.elim) hbox.upd fun b hb h => h.elim (fun h => by omega) id
    · have := hE.size;omega
end Ms

namespace Ms
open Go
theorem All2.nil {α β : Type} {R : α → β → Prop} : All2 R [] [] := ⟨rfl,fun i h => by simp at h⟩
theorem All2.cons {α β : Type} {R : α → β → Prop} {x : α} {y : β} {xs : List α} {ys : List β} (h : R x y) (t : All2 R xs ys) : All2 R (x :: xs) (y :: ys) := by
  refine ⟨by simp [t.1],fun i h1 h2 => ?_⟩
  cases i with
  | zero => exact h
  | succ i => exact t.2 i (by simpa using h1) (by simpa using h2)
theorem FldsV.litO {ok : Blocks} {w : World} {b : Nat} {fr : Nat × Nat} {T : TypeId} {fs : List Fld} {css : List (List Value)} (hok : ok b) (h : blk w b = some (css.flatten.toArray,T,fr)) (hl : ∀ cs ∈ css,cs.length = 8) (ha : All2 (FldC ok w) fs css) :
    FldsV ok w (.slice (some ⟨b,0,none⟩) fs.length fs.length) fs := by
  refine ⟨css,⟨some ⟨b,0,none⟩,fs.length,by rw [ha.1],by rw [ha.1];exact Nat.le_refl _,hl,.inr ⟨_,rfl,rfl,hok,_,h,fun i hi => ?_⟩⟩,ha⟩
  simp only [Nat.zero_add,List.getElem?_toArray]
theorem FldsV.none (ok : Blocks) (w : World) : FldsV ok w (.slice none 0 0) [] := ⟨[],⟨_,0,rfl,Nat.le_refl _,by simp,.inl rfl⟩,rfl,fun i h => by simp at h⟩
theorem FldsV.stay {ok' : Blocks} {B n : Nat} {w w' : World} {v : Value} {l : List Fld} (h : FldsV (fun b => n ≤ b) w v l) (u : Upd (fun b => b = B) w w') (hn : B < n) (hB : ∀ b,n ≤ b → ok' b) : FldsV ok' w' v l :=
  (h.keep (u.keeps fun b _ hk e => by omega)).weaken fun b _ hk => hB b hk
abbrev P8 : List (Nat × Nat) := [(0,1),(1,1),(2,1),(3,1),(4,1),(5,1),(6,1),(7,1)]
theorem P8_get : ∀ i,i < 8 → P8[i]? = some (i,1) := by decide
def fillN : List Value → List (Nat × Value) → Option (Array Value)
  | ds,[] => some ds.toArray
  | ds,(i,v) :: ps => if flat v = true ∧ i < 8 then fillN (ds.set i v) ps else fillL P8 ds.toArray ((i,v) :: ps)
theorem fillN_eq : ∀ (ps : List (Nat × Value)) (ds : List Value),ds.length = 8 → fillL P8 ds.toArray ps = fillN ds ps
  | [],_,_ => rfl
  | (i,v) :: ps,ds,h => by
    rw [fillN]
    split
    · rename_i hc
      have hv : v.cells = #[v] := by
        have := hc.1
        cases v <;> first | rfl | (simp [flat] at this)
      rw [← fillN_eq ps (ds.set i v) (by simpa using h)]
      rw [fillL,P8_get i hc.2]
      simp only [hv,List.size_toArray,List.length_cons,List.length_nil,Nat.zero_add,h,true_and]
      rw [if_pos (by omega)]
      simp [wrArr]
    · rfl
theorem fill_fld (d0 d1 d2 d3 d4 d5 d6 d7 : Value) (ps : List (Nat × Value)) : fillL [(0,1),(1,1),(2,1),(3,1),(4,1),(5,1),(6,1),(7,1)] #[d0,d1,d2,d3,d4,d5,d6,d7] ps = fillN [d0,d1,d2,d3,d4,d5,d6,d7] ps := fillN_eq ps _ rfl
theorem fillN_nil (ds : List Value) : fillN ds [] = some ds.toArray := nr rfl
theorem fillN_int (ds : List Value) (i : Nat) (k : IntKind) (n : Int) (ps : List (Nat × Value)) : fillN ds ((i,.int k n) :: ps) = if i < 8 then fillN (ds.set i (.int k n)) ps else fillL P8 ds.toArray ((i,.int k n) :: ps) := by
  rw [fillN];simp [flat]
theorem fillN_slice (ds : List Value) (i : Nat) (a : Option Addr) (n c : Nat) (ps : List (Nat × Value)) : fillN ds ((i,.slice a n c) :: ps) = if i < 8 then fillN (ds.set i (.slice a n c)) ps else fillL P8 ds.toArray ((i,.slice a n c) :: ps) := by
  rw [fillN];simp [flat]
end Ms

namespace Ms
open Nat renaming reduceEqDiff → n0,reduceAdd → n1,reduceMul → n2,reduceSub → n3,reduceLT → n4,reduceLeDiff → n5
open Int renaming reduceEq → i0,reduceLT → i1,reduceLE → i2,reduceNeg → i3,reduceAdd → i4,reduceSub → i5,reduceMul → i6,reduceToNat → i7
set_option maxRecDepth 4000
end Ms

namespace Ms
open Go

theorem RepS.inv {d : Nat} {fs : List Fld} {ok : Blocks} {w : World} {t : Tree} {cs : List Value} (h : RepS true (d + 1) fs ok w t cs) :
    ∃ c v,cs = c ++ [v] ∧ RepL (RepS true d) (szS true d) ok w t fs 0 c ∧ TagsM ok w v t.u := by
  obtain ⟨c,m,h1,h2,h3⟩ := h
  rw [if_pos rfl] at h3
  obtain ⟨v,rfl,h4⟩ := h3
  exact ⟨c,v,h1,h2,h4⟩
theorem Fit1.text {P : List Fld → Tree → Prop} {k : Int} {sub : List Fld} {t : Tree} (h : Fit1 P k sub t) (hk : k = 8 ∨ k = 9) : t.s.length ≤ 32767 := h.1 hk

def FitWF (P : List Fld → Tree → Prop) (v : Int) (f : Fld) (t : Tree) : Prop :=
  (t.null = nullS f v t ∨ (f.null < 0 ∧ (f.kind = 9 ∨ f.kind = 11) ∧ t.null = true ∧ t.s = [] ∧ t.l = [])) ∧ (if f.kind = 11 then t.l.length ≤ 32767 ∧ ∀ x ∈ t.l,Fit1 P f.of f.sub x else Fit1 P f.kind f.sub t)
def FitWL (P : List Fld → Tree → Prop) (v : Int) (t : Tree) : List Fld → Nat → Prop
  | [],_ => True
  | f :: fs,i => (hasS f v = true → FitWF P v f (t.at i)) ∧ FitWL P v t fs (i + 1)
def FitW (v : Int) : Nat → List Fld → Tree → Prop
  | 0,fs,_ => fs = []
  | d + 1,fs,t => FitWL (FitW v d) v t fs 0 ∧ FitU fs t.u
theorem nullS_neg {f : Fld} {v : Int} {t : Tree} (h : f.null < 0) : nullS f v t = false := by
  unfold nullS
  have : decide (f.null ≥ 0) = false := by simp;omega
  rw [this];simp
section
variable {P : List Fld → Tree → Prop} {V : Int} {f : Fld} {t : Tree} (h : FitWF P V f t)
include h
theorem FitWF.isnull (hn : 0 ≤ f.null) : t.null = nullS f V t := by
  rcases h.1 with h1 | h1
  · exact h1
  · omega
theorem FitWF.list (hk : f.kind = 11) : t.l.length ≤ 32767 ∧ ∀ x ∈ t.l,Fit1 P f.of f.sub x := by
  have := h.2;rw [if_pos hk] at this;exact this
theorem FitWF.one (hk : f.kind ≠ 11) : Fit1 P f.kind f.sub t := by
  have := h.2;rw [if_neg hk] at this;exact this
theorem FitWF.text (hk : f.kind = 8 ∨ f.kind = 9) : t.s.length ≤ 32767 := (h.one (by omega)).1 hk
theorem FitWF.empty (hn : f.null < 0) (ht : t.null = true) : t.s = [] ∧ t.l = [] := by
  rcases h.1 with h1 | h1
  · rw [nullS_neg hn,ht] at h1;cases h1
  · exact h1.2.2.2
end
theorem RepF_listW {P : List Fld → Tree → Prop} {V : Int} {R : List Fld → Rel Tree} {S : List Fld → Nat} {f : Fld} {ok : Blocks} {w : World} {t : Tree} {c : List Value} (hg : FitWF P V f t) (h : f.kind = 11) (hn : f.null < 0) (hr : RepF R S f ok w t c) : ∃ v,c = [v] ∧ SlR ok w (sz1 S f.of f.sub) (Rep1 R f.of f.sub ok w) v t.l := by
  unfold RepF at hr
  rw [if_neg (by omega),if_pos h] at hr
  obtain ⟨v,rfl,hr⟩ := hr
  refine ⟨v,rfl,?_⟩
  split at hr
  · rename_i ht
    rw [(hg.empty hn ht).2,hr]
    exact ⟨[],⟨none,0,rfl,Nat.le_refl _,by simp,.inl rfl⟩,rfl,fun i h => by simp at h⟩
  · exact hr.1
def plainL (pt : List Fld → Int → Bool → Tree → List UInt8) (v : Int) (flex : Bool) (t : Tree) : List Fld → Nat → List UInt8
  | [],_ => []
  | f :: fs,i => (if f.tag < 0 ∧ hasS f v = true then fieldS pt f v flex (t.at i) else []) ++ plainL pt v flex t fs (i + 1)
theorem plainL_eq (pt : List Fld → Int → Bool → Tree → List UInt8) (v : Int) (flex : Bool) (t : Tree) : ∀ (fs : List Fld) (i : Nat),(fs.zipIdx i).flatMap (fun (f,i) => if f.tag < 0 ∧ hasS f v = true then fieldS pt f v flex (t.at i) else []) = plainL pt v flex t fs i
  | [],_ => rfl
  | f :: fs,i => by
    rw [List.zipIdx_cons,List.flatMap_cons,plainL_eq pt v flex t fs (i + 1)];rfl
theorem plainS_L (pt : List Fld → Int → Bool → Tree → List UInt8) (fs : List Fld) (v : Int) (flex : Bool) (t : Tree) : plainS pt fs v flex t = plainL pt v flex t fs 0 := plainL_eq pt v flex t fs 0
theorem plainL_has {pt : List Fld → Int → Bool → Tree → List UInt8} {v : Int} {flex : Bool} {t : Tree} {f : Fld} {fs : List Fld} {i : Nat} {X Y : List UInt8} (ht : f.tag < 0) (h : hasS f v = true) (hX : fieldS pt f v flex (t.at i) = X) (hY : plainL pt v flex t fs (i + 1) = Y) :
    plainL pt v flex t (f :: fs) i = X ++ Y := by
  rw [plainL,if_pos ⟨ht,h⟩,hX,hY]
theorem hasS_t {f : Fld} {v : Int} (h1 : f.fr ≤ v) (h2 : f.to < 0 ∨ v ≤ f.to) : hasS f v = true := by
  unfold hasS;simp only [Bool.and_eq_true,Bool.or_eq_true,decide_eq_true_eq];exact ⟨h1,h2⟩
theorem partS_yes {d : Nat} {fs : List Fld} {v : Int} {t : Tree} {Y : List UInt8} (hk : knownS fs = 0) (hu : FitU fs t.u) (hY : plainL (partS d) v true t fs 0 = Y) : partS (d + 1) fs v true t = Y ++ (uvarS t.u.length ++ t.u.flatMap oneTag) := by
  rw [partS_eq];unfold partT;rw [if_pos rfl,plainS_L,hY,unknownS_id hu]
  have h0 : tagsS (partS d) (d + 1) fs v true t = [] := by unfold tagsS;rw [hk];rfl
  rw [h0]
  simp only [List.length_nil,Nat.zero_add,List.flatMap_nil,List.nil_append]
  congr 2
  refine flatMap_ext fun x hx => ?_
  unfold unkT oneTag
  rw [wholeS_id (hu.2.1 x hx).1]

section
variable {P : List Fld → Tree → Prop} {pt : List Fld → Int → Bool → Tree → List UInt8} {v : Int} {f : Fld} {t : Tree}
theorem fieldS_one {flex : Bool} (h : f.kind ≠ 10 ∧ f.kind ≠ 11) : fieldS pt f v flex t = valueS pt f.kind f.sub (nullS f v t) v flex t := by
  unfold fieldS;rw [if_neg h.2,if_neg (fun h' => h.1 h'.1)]
theorem fieldS_num {flex : Bool} (k : Int) (hk : f.kind = k) (h : k = 1 ∨ k = 2 ∨ k = 3 ∨ k = 4 ∨ k = 5 ∨ k = 6) : fieldS pt f v flex t = fixedS t.n (widthS k) := by
  rw [fieldS_one (by omega)]
  unfold valueS
  rw [if_neg (by omega),if_neg (by omega),if_neg (by omega),if_neg (by omega),if_neg (by omega),hk]
theorem b8_bool (n : Int) : [b8 (n % 2)] = [if decide (n % 2 = 1) = true then (1 : UInt8) else 0] := by
  have h : n % 2 = 0 ∨ n % 2 = 1 := by omega
  rcases h with h | h <;> rw [h] <;> rfl
theorem fieldS_bool {flex : Bool} (hk : f.kind = 0) : fieldS pt f v flex t = [if decide (t.n % 2 = 1) = true then 1 else 0] := by
  rw [fieldS_one (by omega)]
  unfold valueS
  rw [if_pos hk,b8_bool]
theorem fieldS_uuid {flex : Bool} (hk : f.kind = 7) : fieldS pt f v flex t = uuidS t.s := by
  rw [fieldS_one (by omega)]
  unfold valueS
  rw [if_neg (by omega),if_pos hk];rfl
theorem counted_some {flex : Bool} (n k : Nat) : countedS flex false n k = if flex = true then uvarS (n + 1) else fixedS n k := by
  unfold countedS
  cases flex <;> simp
theorem counted_none {flex : Bool} (n k : Nat) : countedS flex true n k = if flex = true then [0] else fixedS (-1) k := by
  unfold countedS
  cases flex <;> simp
theorem valueS_text {flex null : Bool} {sub : List Fld} (hl : t.s.length ≤ 32767) : valueS pt 8 sub null v flex t = if null = true then (if flex = true then [0] else fixedS (-1) 2) else (if flex = true then uvarS (t.s.length + 1) else fixedS t.s.length 2) ++ t.s := by
  unfold valueS
  rw [if_neg (by omega),if_neg (by omega),if_pos rfl]
  cases null with
  | true => simp only [if_true,counted_none,List.append_nil]
  | false => simp only [Bool.false_eq_true,if_false,wholeS_id hl,counted_some]
theorem valueS_num {flex null : Bool} {sub : List Fld} (k : Int) (h : k = 1 ∨ k = 2 ∨ k = 3 ∨ k = 4 ∨ k = 5) : valueS pt k sub null v flex t = fixedS t.n (widthS k) := by
  unfold valueS
  rw [if_neg (by omega),if_neg (by omega),if_neg (by omega),if_neg (by omega),if_neg (by omega)]
theorem valueS_part {flex null : Bool} {sub : List Fld} : valueS pt 10 sub null v flex t = pt sub v flex t := by
  unfold valueS
  rw [if_neg (by omega),if_neg (by omega),if_neg (by omega),if_neg (by omega),if_pos rfl]
section
variable (h : FitWF P v f t)
include h
theorem fieldS_ptr_t (hk : f.kind = 8) (hn : 0 ≤ f.null) : fieldS pt f v true t = if t.null = true then [0] else uvarS (t.s.length + 1) ++ t.s := by
  rw [fieldS_one (by omega),hk,valueS_text (h.text (.inl hk)),← h.isnull hn];rfl
theorem fieldS_text_t (hk : f.kind = 8) (hn : f.null < 0) : fieldS pt f v true t = uvarS (t.s.length + 1) ++ t.s := by
  rw [fieldS_one (by omega),hk,valueS_text (h.text (.inl hk)),nullS_neg hn];rfl
theorem fieldS_list_t {g : Tree → List UInt8} (hk : f.kind = 11) (hn : f.null < 0) (hg : ∀ x ∈ t.l,valueS pt f.of f.sub false v true x = g x) : fieldS pt f v true t = uvarS (t.l.length + 1) ++ t.l.flatMap g := by
  unfold fieldS
  rw [if_pos hk,nullS_neg hn]
  simp only [Bool.false_eq_true,if_false,thingsS_id (h.list hk).1,counted_some,if_true]
  rw [flatMap_ext hg]
end
end
theorem wrap16 (n : Int) : fixedS (IntKind.i16.wrap n) 2 = fixedS n 2 := by
  have h : (IntKind.i16.wrap n) % (256 * 256) = n % (256 * 256) := by
    simp [IntKind.wrap,IntKind.bits,IntKind.signed]
    split <;> omega
  have e1 := b8_fdiv (x := IntKind.i16.wrap n) (y := n) 256 h (by omega)
  rw [fixedS_two,fixedS_two,b8_eq (x := IntKind.i16.wrap n) (y := n) (by omega),show (256 : Int) = ((256 : Nat) : Int) from rfl,e1]
theorem take_flatMap_len {α : Type} (l : List α) (g : α → List UInt8) (j : Nat) : ((l.take j).flatMap g).length ≤ (l.flatMap g).length := by
  have : l.flatMap g = (l.take j).flatMap g ++ (l.drop j).flatMap g := by rw [← List.flatMap_append,List.take_append_drop]
  rw [this,List.length_append];omega
theorem AppR.eqs {E : TypeId} {B : Nat} {w w' : World} {v r : Value} {s a b : List UInt8} (h : AppR E B w v s a r w') (e : a = b) : AppR E B w v s b r w' := e ▸ h

theorem wrap32 (n : Int) : fixedS (IntKind.i32.wrap n) 4 = fixedS n 4 := by
  have h : (IntKind.i32.wrap n) % 4294967296 = n % 4294967296 := by
    simp [IntKind.wrap,IntKind.bits,IntKind.signed]
    split <;> omega
  generalize IntKind.i32.wrap n = m at *
  rw [fixedS_four,fixedS_four]
  have e1 := b8_fdiv (x := m) (y := n) 256 (by omega) (by omega)
  have e2 := b8_fdiv (x := m) (y := n) 65536 (by omega) (by omega)
  have e3 := b8_fdiv (x := m) (y := n) 16777216 (by omega) (by omega)
  have e4 := b8_eq (x := m) (y := n) (by omega)
  rw [show ((256 : Nat) : Int) = 256 from rfl] at e1
  rw [show ((65536 : Nat) : Int) = 65536 from rfl] at e2
  rw [show ((16777216 : Nat) : Int) = 16777216 from rfl] at e3
  rw [e1,e2,e3,e4]
theorem cellsAt_of {x : Array Value} {l : List Value} {o n : Nat} (h : ∀ j,j < n → x[o + j]? = l[j]?) (hl : l.length = n) (hb : o + n ≤ x.size) : cellsAt x o n = some (.agg l.toArray) := by
  rw [cellsAt_ok hb,extract_of h hl]

theorem rising_keys {fs : List Fld} {u : List TagD} (h : FitU fs u) : (u.map (·.1)).Pairwise (· < ·) := List.pairwise_map.2 h.2.2
theorem tags_small {fs : List Fld} {u : List TagD} (h : FitU fs u) {ok : Blocks} {w : World} {m : Value} (ht : TagsM ok w m u) : ∀ y ∈ u,y.1 < 2 ^ 32 ∧ y.2.length ≤ 32767 := by
  intro y hy
  refine ⟨?_,(h.2.1 y hy).1⟩
  rcases ht with ⟨_,rfl⟩ | ⟨r,es,clock,_,_,_,g4,g5,_⟩
  · cases hy
  · obtain ⟨i,hi,rfl⟩ := List.getElem_of_mem hy
    exact (g5 i hi (by omega)).1.num
theorem get_mid {pre xs post : List Value} {j : Nat} (hj : j < xs.length) : (pre ++ (xs ++ post))[pre.length + j]? = xs[j]? := by
  rw [List.getElem?_append_right (by omega),Nat.add_sub_cancel_left,List.getElem?_append_left hj]
end Ms

