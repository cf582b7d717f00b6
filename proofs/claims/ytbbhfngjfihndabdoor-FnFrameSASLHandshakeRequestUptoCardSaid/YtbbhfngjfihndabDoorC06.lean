/- A part of the proof: see the last text. -/
import Derived.Shelf.GgSortFunc.Insertion
import Derived.Shelf.GgSortFunc.Whole
import Derived.Shelf.GgSortFunc.Tiny
import Derived.Test.YtbbhfngjfihndabDoorProg
import Derived.KernelRfl
import Derived.Test.YtbbhfngjfihndabDoorC00
import Derived.Test.YtbbhfngjfihndabDoorC01
import Derived.Test.YtbbhfngjfihndabDoorC02
import Derived.Test.YtbbhfngjfihndabDoorC03
import Derived.Test.YtbbhfngjfihndabDoorC05
set_option linter.unusedSimpArgs false
set_option linter.unusedVariables false
namespace Ms
open Go Go.ChangeMaps

section
variable {P : Program} {ρ : Regs} {w : World} {K : Regs → World → Prop} {d : Option Nat} {type : TypeId} {pos : String} {after : Array Edge} {guard : Option (Nat × Bool)}
theorem wp_entry {x : Operand} {r bm since : Nat} {seen : Array Nat} {es : Array MapEntry} {clock : Nat} {e : MapEntry} (hx : ev ρ x = .pointer (some ⟨r,0,none⟩))
    (hr : w.heap[r]? = some (.mapIter (some bm) since (seen.push e.born) clock)) (hb : w.heap[bm]? = some (.map es clock)) (he : e ∈ es.toList) (hn : (es.toList.map (·.born)).Nodup) (hk : K (put ρ d (.tuple #[e.key,e.val])) w) :
    rawK P { dst := d,op := .entry x,type := type,pos := pos,after := after,guard := guard } ρ w K := by
  refine wp_raw (v := .tuple #[e.key,e.val]) ?_ hk
  simp only [execOp,hx,Sem.run_bind,run_entry_at w r bm since seen es clock e hr hb he hn,Result.andThen_ok,Sem.run_pure]
end

def keyN (e : MapEntry) : Nat := match e.key with | .int _ n => n.toNat | _ => 0
structure Ranged (es : Array MapEntry) (seen : Array Nat) (xs : List Nat) (l rest : List MapEntry) : Prop where
  perm : (l ++ rest).Perm es.toList
  seen : seen.toList = l.map (·.born)
  keys : xs = l.map keyN
theorem Ranged.start (es : Array MapEntry) : Ranged es #[] [] [] es.toList := ⟨List.Perm.refl _,rfl,rfl⟩
theorem mem_leftOf {es : Array MapEntry} {seen : Array Nat} {e : MapEntry} (h : e ∈ (leftOf es seen).toList) : e ∈ es.toList ∧ e.born ∉ seen.toList := by
  simp only [leftOf,Array.toList_filter,List.mem_filter] at h
  refine ⟨h.1,?_⟩
  have := h.2
  simp at this
  simpa using this
theorem Ranged.step {es : Array MapEntry} {seen : Array Nat} {xs : List Nat} {l rest : List MapEntry} (h : Ranged es seen xs l rest) {e : MapEntry} (he : e ∈ (leftOf es seen).toList) :
    ∃ rest',Ranged es (seen.push e.born) (xs ++ [keyN e]) (l ++ [e]) rest' ∧ xs.length < es.size := by
  obtain ⟨h1,h2⟩ := mem_leftOf he
  rw [h.seen] at h2
  have hm : e ∈ rest := by
    rcases List.mem_append.1 (h.perm.mem_iff.2 h1) with h3 | h3
    · exact absurd (List.mem_map.2 ⟨e,h3,rfl⟩) h2
    · exact h3
  obtain ⟨a,b,rfl⟩ := List.append_of_mem hm
  refine ⟨a ++ b,⟨?_,by simp [h.seen],by simp [h.keys]⟩,?_⟩
  · refine List.Perm.trans ?_ h.perm
    rw [List.append_assoc]
    refine List.Perm.append_left l ?_
    show (e :: (a ++ b)).Perm _
    exact (List.perm_middle).symm
  · have := h.perm.length_eq
    have e1 : xs.length = l.length := by rw [h.keys,List.length_map]
    simp only [List.length_append,List.length_cons,Array.length_toList] at this
    omega
theorem Ranged.done {es : Array MapEntry} {seen : Array Nat} {xs : List Nat} {l rest : List MapEntry} (h : Ranged es seen xs l rest) (h0 : (leftOf es seen).size = 0) (hn : (es.toList.map (·.born)).Nodup) : xs.Perm (es.toList.map keyN) := by
  have hr : rest = [] := by
    cases rest with
    | nil => rfl
    | cons e rest =>
      exfalso
      have h1 : e ∈ es.toList := h.perm.mem_iff.1 (by simp)
      have h2 : e.born ∉ seen.toList := by
        rw [h.seen]
        have hn2 : ((l ++ e :: rest).map (·.born)).Nodup := (h.perm.map _).nodup_iff.2 hn
        rw [List.map_append,List.nodup_append] at hn2
        intro hm
        exact hn2.2.2 _ hm _ (by simp) rfl
      have h3 : e ∈ (leftOf es seen).toList := by
        simp only [leftOf,Array.toList_filter,List.mem_filter]
        refine ⟨h1,?_⟩
        simpa using h2
      have : (leftOf es seen).toList = [] := by
        apply List.eq_nil_of_length_eq_zero
        simpa using h0
      rw [this] at h3;simp at h3
  subst hr
  rw [h.keys]
  have := h.perm.map keyN
  simpa using this
theorem Ranged.len {es : Array MapEntry} {seen : Array Nat} {xs : List Nat} {l rest : List MapEntry} (h : Ranged es seen xs l rest) : xs.length ≤ es.size := by
  have := h.perm.length_eq
  have e1 : xs.length = l.length := by rw [h.keys,List.length_map]
  simp only [List.length_append,Array.length_toList] at this
  omega

/-! ### The sort -/
def ltNat (a b : Nat) : Bool := decide (a < b)
theorem swo_ltNat : Go.Sort.SWO ltNat where
  irrefl x := by simp [ltNat]
  trans x y z h1 h2 := by simp only [ltNat,decide_eq_true_eq] at *;omega
  ntrans x y z h1 h2 := by simp only [ltNat,decide_eq_false_iff_not] at *;omega
def u32V (n : Nat) : Value := .int .u32 n
theorem sorted_keys {xs d' : Array Nat} {ks : List Nat} (hp : Go.Sort.PermIn 0 xs.size xs d') (hs : Go.Sort.SortedIn ltNat 0 xs.size d') (hk : xs.toList.Perm ks) (hks : ks.Pairwise (· < ·)) : d'.toList = ks := by
  obtain ⟨hsz,_,hperm⟩ := hp
  have e1 : d'.extract 0 xs.size = d' := by rw [← hsz];exact Array.extract_size
  rw [e1,Array.extract_size] at hperm
  refine List.Perm.eq_of_pairwise (le := fun x y => x ≤ y) (fun a b _ _ h1 h2 => Nat.le_antisymm h1 h2) ?_ (hks.imp fun h => Nat.le_of_lt h) (hperm.trans hk)
  rw [List.pairwise_iff_getElem]
  intro i j hi hj hij
  have hi' : i < d'.size := by simpa using hi
  have hj' : j < d'.size := by simpa using hj
  have := hs i j (Nat.zero_le _) hij (by omega)
  rw [getElem!_pos d' j hj',getElem!_pos d' i hi'] at this
  simp only [ltNat,decide_eq_false_iff_not] at this
  simp only [Array.getElem_toList];omega

/-! ### Worlds behind the sort -/
theorem blk_mapBlock_ne (w : World) (b g : Nat) (f : Array Value → Array Value) (h : b ≠ g) : (Go.Sort.mapBlock w g f).heap[b]? = w.heap[b]? := by
  simp only [Go.Sort.mapBlock,Array.getElem?_modify]
  rw [if_neg (Ne.symm h)]
theorem upd_putRow (w : World) (n g off : Nat) (d : Array Nat) (os : Array Obj) : Upd (fun b => b = g) w (Go.Sort.grow (Go.Sort.putRow u32V (Go.Sort.ahead w n) g off d) os) := by
  refine ⟨rfl,rfl,rfl,?_,fun b hb hn => ?_⟩
  · rw [Go.Sort.size_grow,Go.Sort.size_putRow];show w.heap.size ≤ _;exact Nat.le_add_right _ _
  · rw [Go.Sort.heap_grow_old _ _ (by rw [Go.Sort.size_putRow];exact hb)]
    exact blk_mapBlock_ne _ _ _ _ hn
theorem upd_grow (w : World) (os : Array Obj) : Ext w (Go.Sort.grow w os) := by
  refine ⟨rfl,rfl,rfl,?_,fun b hb hn => Go.Sort.heap_grow_old _ _ hb⟩
  rw [Go.Sort.size_grow];exact Nat.le_add_right _ _
theorem blk_putRow {w : World} {g n off : Nat} {d : Array Nat} {os : Array Obj} {x : Blk} (h : blk w g = some x) : blk (Go.Sort.grow (Go.Sort.putRow u32V (Go.Sort.ahead w n) g off d) os) g = some (Go.Sort.putCells u32V off d x.1,x.2) := by
  have hlt := blk_lt h
  have e : (Go.Sort.grow (Go.Sort.putRow u32V (Go.Sort.ahead w n) g off d) os).heap[g]? = (w.heap[g]?).map (Go.Sort.onCells (Go.Sort.putCells u32V off d)) := by
    rw [Go.Sort.heap_grow_old _ _ (by rw [Go.Sort.size_putRow];exact hlt)]
    simp only [Go.Sort.putRow,Go.Sort.mapBlock,Array.getElem?_modify,if_true]
    rfl
  unfold blk at h ⊢
  rw [e]
  cases hh : w.heap[g]? with
  | none => rw [hh] at h;cases h
  | some o =>
    rw [hh] at h
    cases o <;> first | (simp at h;done) | skip
    simp only [Option.some.injEq] at h
    subst h
    rfl
theorem putCells_row (d0 d : Array Nat) (rest : List Value) (h : d.size = d0.size) : Go.Sort.putCells u32V 0 d (d0.toList.map u32V ++ rest).toArray = (d.toList.map u32V ++ rest).toArray := by
  apply Array.ext_getElem?
  intro k
  simp only [Go.Sort.putCells,Array.getElem?_mapIdx,List.getElem?_toArray,Nat.zero_le,true_and,Nat.zero_add,Nat.sub_zero]
  by_cases hk : k < d.size
  · rw [List.getElem?_append_left (by simp;omega),List.getElem?_append_left (by simpa using hk)]
    simp only [List.getElem?_map,Array.getElem?_toList]
    rw [Array.getElem?_eq_getElem (by omega : k < d0.size),Array.getElem?_eq_getElem hk]
    simp [hk]
  · rw [List.getElem?_append_right (by simp;omega),List.getElem?_append_right (by simp;omega)]
    simp only [List.length_map,Array.length_toList,h]
    cases rest[k - d0.size]? with
    | none => rfl
    | some x => rw [Option.map_some,if_neg (by omega)]
theorem holds_row {w : World} {g : Nat} {d : Array Nat} {rest : List Value} {T : TypeId} {fr : Nat × Nat} {N : Nat} (h : blk w g = some ((d.toList.map u32V ++ rest).toArray,T,fr)) (ht : thaw fr 0 N = true) (hN : d.size ≤ N) : Go.Sort.Holds u32V w g 0 d := by
  intro j hj
  refine ⟨?_,?_⟩
  · rw [cell?_blk,h,Option.bind_some]
    show ((d.toList.map u32V ++ rest).toArray)[0 + j]? = _
    rw [Nat.zero_add,List.getElem?_toArray,List.getElem?_append_left (by simpa using hj),List.getElem?_map,Array.getElem?_toList,Array.getElem?_eq_getElem hj]
    simp [hj]
  · rw [frozen?_blk h]
    simp only [thaw,Bool.or_eq_true,Nat.ble_eq] at ht
    simp only [Bool.and_eq_false_iff,decide_eq_false_iff_not]
    omega

/-! ### A slice in a box,that grows -/
structure BoxA (E T : TypeId) (B db : Nat) (w : World) (v0 : Value) (s : List UInt8) (w' : World) (v : Value) : Prop where
  own : OwnBy E B w' v s
  box : blk w' db = some (#[v],T,(0,0))
  upd : Upd (fun b => b = db ∨ ownB v0 b) w w'
  frame : ∀ b,ownB v b → ownB v0 b ∨ w.heap.size ≤ b
  ne : ¬ ownB v db
theorem BoxA.step {E T : TypeId} {B db : Nat} {w w1 w2 : World} {v0 v1 v2 : Value} {s add : List UInt8} (h : BoxA E T B db w v0 s w1 v1) (hd : db < w.heap.size) (a : AppR E B w1 v1 s add v2 w2) :
    BoxA E T B db w v0 (s ++ add) (wr w2 db 0 [v2]) v2 ∧ blk w2 db = some (#[v1],T,(0,0)) := by
  have hz := h.upd.size
  have hz2 := a.upd.size
  have hb2 : blk w2 db = some (#[v1],T,(0,0)) := by rw [blk_of_heap (a.upd.keep db (by omega) h.ne)];exact h.box
  have hne : ¬ ownB v2 db := fun h1 => (a.frame db h1).elim h.ne (fun h => by omega)
  refine ⟨⟨?_,?_,?_,?_,hne⟩,hb2⟩
  · exact Own.upd a.own (Upd.wr (S := fun b => b = db) (Upd.refl _ _) _ _ (.inr rfl)) fun b hb e => hne (e ▸ hb)
  · rw [blk_wr_eq,hb2];rfl
  · exact (Upd.trans' h.upd a.upd fun b hb ho => (h.frame b ho).elim .inr (fun h => by omega)).wr _ _ (.inr (.inl rfl))
  · intro b hb
    rcases a.frame b hb with h1 | h1
    · exact h.frame b h1
    · exact .inr (by omega)

section
variable {ok : Blocks} {w : World} {u : List TagD} {es : Array MapEntry} {clock : Nat} (hsz : es.size = u.length) (he : ∀ i (h1 : i < u.length) (h2 : i < es.size),TagE ok w u[i] es[i] ∧ es[i].born < clock)
include hsz he
theorem tm_keys : es.toList.map keyN = u.map (·.1) := by
  apply List.ext_getElem (by simp [hsz])
  intro i h1 h2
  simp only [List.length_map,Array.length_toList] at h1 h2
  simp only [List.getElem_map,Array.getElem_toList]
  unfold keyN
  rw [(he i h2 h1).1.key]
  simp
theorem tm_old : ∀ x ∈ es.toList,x.born < clock := by
  intro x hx
  obtain ⟨i,hi,rfl⟩ := List.getElem_of_mem hx
  simp only [Array.length_toList] at hi
  exact (he i (by omega) hi).2
theorem tm_keysU : KeysU es.toList := by
  intro x hx
  obtain ⟨i,hi,rfl⟩ := List.getElem_of_mem hx
  simp only [Array.length_toList] at hi
  exact ⟨_,(he i (by omega) hi).1.key⟩
end
theorem tm_nodup {es : Array MapEntry} (h : ∀ i j (h1 : i < es.size) (h2 : j < es.size),es[i].born = es[j].born → i = j) : (es.toList.map (·.born)).Nodup := by
  rw [List.nodup_iff_pairwise_ne,List.pairwise_iff_getElem]
  intro i j hi hj hij heq
  simp only [List.length_map,Array.length_toList] at hi hj
  simp only [List.getElem_map,Array.getElem_toList] at heq
  have := h i j hi hj heq
  omega
def lenBox (o : Option Blk) : Nat :=
  match o with
  | some x => (match (x.1[0]? : Option Value) with | some (Value.slice _ n _) => n | _ => 0)
  | none => 0
theorem own_ne {B : Nat} {w : World} {E : TypeId} {size n : Nat} {v : Value} {cs : List Value} (h : Own B w E size v n cs) {b : Nat} (hb : ∀ x,blk w b = some x → x.2.1 ≠ E) : ¬ ownB v b := by
  rcases h.2 with ⟨rfl,_⟩ | ⟨g,cap,rest,fr,rfl,_,h2,_⟩
  · rintro ⟨_,_,_,h,_⟩;cases h
  · rintro ⟨a,n,c,h,rfl⟩
    cases h
    exact hb _ h2 rfl
end Ms

namespace Ms
open Nat renaming reduceEqDiff → n0,reduceAdd → n1,reduceMul → n2,reduceSub → n3,reduceLT → n4,reduceLeDiff → n5
open Int renaming reduceEq → i0,reduceLT → i1,reduceLE → i2,reduceNeg → i3,reduceAdd → i4,reduceSub → i5,reduceMul → i6,reduceToNat → i7
set_option maxRecDepth 4000
open Go Go.Proofs
attribute [local congr] W_congr WPsq_congr WPp_congr optK_congr addrK_congr intK_congr boolK_congr sliceK_congr tupleK_congr funcK_congr Fn_congr rawK_congr takeK_congr stepK_congr convK_congr aggK_congr

end Ms

namespace Ms
open Go Go.ChangeMaps

section
variable {R : List Fld → Rel Tree} {S : List Fld → Nat} {f : Fld} {ok : Blocks} {w : World} {t : Tree} {c : List Value}
theorem RepF_num (h : f.kind = 0 ∨ f.kind = 1 ∨ f.kind = 2 ∨ f.kind = 3 ∨ f.kind = 4 ∨ f.kind = 5) : RepF R S f ok w t c ↔ c = [numC f.kind t.n] := by
  unfold RepF Rep1
  rw [if_neg (by omega),if_neg (by omega),if_neg (by omega),if_neg (by omega),if_neg (by omega),if_neg (by omega)]
theorem RepF_uuid (h : f.kind = 7) : RepF R S f ok w t c ↔ c = (uuidS t.s).map byteV := by
  unfold RepF Rep1
  rw [if_neg (by omega),if_neg (by omega),if_pos h]
theorem RepF_text (h : f.kind = 8) (hn : f.null < 0) : RepF R S f ok w t c ↔ c = [strV t.s] := by
  unfold RepF Rep1
  rw [if_neg (by omega),if_neg (by omega),if_neg (by omega),if_pos h]
theorem RepF_ptr (h : f.kind = 8) (hn : 0 ≤ f.null) : RepF R S f ok w t c ↔ ∃ v,c = [v] ∧ PtrText ok w v t.null t.s := by
  unfold RepF
  rw [if_pos ⟨h,hn⟩]
theorem RepF_bytes (h : f.kind = 9) : RepF R S f ok w t c ↔ ∃ v,c = [v] ∧ OptBytes ok w v t.null t.s := by
  unfold RepF Rep1
  rw [if_neg (by omega),if_neg (by omega),if_neg (by omega),if_neg (by omega),if_pos h]
theorem RepF_list (h : f.kind = 11) (hn : t.null = false) : RepF R S f ok w t c ↔ ∃ v,c = [v] ∧ SlR ok w (sz1 S f.of f.sub) (Rep1 R f.of f.sub ok w) v t.l ∧ ∃ a n k,v = .slice (some a) n k := by
  unfold RepF
  rw [if_neg (by omega),if_pos h,hn]
  simp
end
section
variable {R : List Fld → Rel Tree} {k : Int} {sub : List Fld} {ok : Blocks} {w : World} {t : Tree} {c : List Value}
theorem Rep1_num (h : k = 0 ∨ k = 1 ∨ k = 2 ∨ k = 3 ∨ k = 4 ∨ k = 5) : Rep1 R k sub ok w t c ↔ c = [numC k t.n] := by
  unfold Rep1
  rw [if_neg (by omega),if_neg (by omega),if_neg (by omega),if_neg (by omega)]
theorem Rep1_text : Rep1 R 8 sub ok w t c ↔ c = [strV t.s] := by
  unfold Rep1
  rw [if_neg (by omega),if_pos rfl]
theorem Rep1_part : Rep1 R 10 sub ok w t c ↔ R sub ok w t c := by
  unfold Rep1
  rw [if_neg (by omega),if_neg (by omega),if_neg (by omega),if_pos rfl]
end
theorem RepF.keepS {tg : Bool} {d : Nat} {f : Fld} {ok : Blocks} {w w' : World} {t : Tree} {c : List Value} (h : RepF (RepS tg d) (szS tg d) f ok w t c) (k : Keeps ok w w') : RepF (RepS tg d) (szS tg d) f ok w' t c :=
  (RepF_lay f fun _ => RepS_lay tg d f.sub).keep h k
theorem RepF.weakenS {tg : Bool} {d : Nat} {f : Fld} {ok ok' : Blocks} {w : World} {t : Tree} {c : List Value} (h : RepF (RepS tg d) (szS tg d) f ok w t c) (k : ∀ b,b < w.heap.size → ok b → ok' b) : RepF (RepS tg d) (szS tg d) f ok' w t c :=
  (RepF_lay f fun _ => RepS_lay tg d f.sub).weaken h k
theorem PtrText.shape {ok : Blocks} {w : World} {v : Value} {null : Bool} {s : List UInt8} (h : PtrText ok w v null s) : ∃ a,v = .pointer a := by
  unfold PtrText at h
  split at h
  · exact ⟨_,h⟩
  · obtain ⟨b,o,x,h,_⟩ := h;exact ⟨_,h⟩
theorem OptBytes.shape {ok : Blocks} {w : World} {v : Value} {null : Bool} {s : List UInt8} (h : OptBytes ok w v null s) : ∃ a n c,v = .slice a n c := by
  unfold OptBytes at h
  split at h
  · exact ⟨_,_,_,h⟩
  · obtain ⟨a,n,c,h⟩ := h.2;exact ⟨_,_,_,h⟩
theorem OptBytes.some {ok : Blocks} {w : World} {v : Value} {s : List UInt8} (h : OptBytes ok w v false s) : BytesV ok w v s := by
  unfold OptBytes at h
  rw [if_neg (by decide)] at h
  exact h.1
theorem extract_of {x : Array Value} {l : List Value} {o n : Nat} (h : ∀ j,j < n → x[o + j]? = l[j]?) (hl : l.length = n) : x.extract o (o + n) = l.toArray := by
  apply Array.ext_getElem?
  intro j
  have e : l.toArray[j]? = l[j]? := by simp
  rw [e]
  by_cases hj : j < n
  · have h1 := h j hj
    rw [← h1]
    have hlt : o + j < x.size := by
      rcases Nat.lt_or_ge (o + j) x.size with h2 | h2
      · exact h2
      · rw [Array.getElem?_eq_none h2,List.getElem?_eq_getElem (by omega)] at h1;cases h1
    simp only [Array.getElem?_extract]
    rw [if_pos (by omega)]
  · rw [List.getElem?_eq_none (by omega)]
    apply Array.getElem?_eq_none
    simp;omega
theorem list16 {α : Type} {l : List α} (h : l.length = 16) : ∃ a b c d e f g i j k m n o p q r,l = [a,b,c,d,e,f,g,i,j,k,m,n,o,p,q,r] := by
  match l,h with
  | [a,b,c,d,e,f,g,i,j,k,m,n,o,p,q,r],_ => exact ⟨a,b,c,d,e,f,g,i,j,k,m,n,o,p,q,r,rfl⟩

/-! ### A map of tags that is filled -/
def TagsG (ok : Blocks) (L : Nat) (w : World) (m : Value) (u : List TagD) : Prop :=
  (m = .map none ∧ u = []) ∨ ∃ r es clock,m = .map (some r) ∧ L ≤ r ∧ w.heap[r]? = some (.map es clock) ∧ es.size = u.length ∧ (∀ i (h1 : i < u.length) (h2 : i < es.size),TagE (fun b => ok b ∧ b < L) w u[i] es[i] ∧ es[i].born < clock) ∧
    (∀ i j (h1 : i < es.size) (h2 : j < es.size),es[i].born = es[j].born → i = j)
theorem TagsG.start (ok : Blocks) (L : Nat) (w : World) : TagsG ok L w (.map none) [] := .inl ⟨rfl,rfl⟩
theorem TagsG.tags {ok ok' : Blocks} {L : Nat} {w : World} {m : Value} {u : List TagD} (h : TagsG ok L w m u) (h1 : ∀ b,b < L → ok b → ok' b) (h2 : ∀ b,L ≤ b → ok' b) : TagsM ok' w m u := by
  rcases h with h | ⟨r,es,clock,g1,g2,g3,g4,g5,g6⟩
  · exact .inl h
  · exact .inr ⟨r,es,clock,g1,h2 r g2,g3,g4,fun i a b => ⟨(g5 i a b).1.weaken fun b _ hk => h1 b hk.2 hk.1,(g5 i a b).2⟩,g6⟩
theorem TagsG.keep {ok : Blocks} {L : Nat} {w w' : World} {m : Value} {u : List TagD} (h : TagsG ok L w m u) (k : ∀ b,b < w.heap.size → (ok b ∧ b < L) ∨ L ≤ b → w'.heap[b]? = w.heap[b]?) : TagsG ok L w' m u := by
  rcases h with h | ⟨r,es,clock,g1,g2,g3,g4,g5,g6⟩
  · exact .inl h
  · exact .inr ⟨r,es,clock,g1,g2,by rw [k r (heap_lt g3) (.inr g2)];exact g3,g4,fun i a b => ⟨(g5 i a b).1.keep fun b hb hk => k b hb (.inl hk),(g5 i a b).2⟩,g6⟩
theorem TagsG.shape {ok : Blocks} {L : Nat} {w : World} {m : Value} {u : List TagD} (h : TagsG ok L w m u) : ∃ a,m = .map a := by
  rcases h with ⟨h,_⟩ | ⟨r,es,clock,h,_⟩ <;> exact ⟨_,h⟩
theorem TagsM.shape {ok : Blocks} {w : World} {m : Value} {u : List TagD} (h : TagsM ok w m u) : ∃ a,m = .map a := by
  rcases h with ⟨h,_⟩ | ⟨r,es,clock,h,_⟩ <;> exact ⟨_,h⟩
theorem tagE_push {ok : Blocks} {w : World} {u : List TagD} {es : Array MapEntry} {clock : Nat} (hsz : es.size = u.length) (h : ∀ i (h1 : i < u.length) (h2 : i < es.size),TagE ok w u[i] es[i] ∧ es[i].born < clock) {y : TagD} {e : MapEntry} (he : TagE ok w y e) (hb : e.born = clock) :
    (es.push e).size = (u ++ [y]).length ∧ (∀ i (h1 : i < (u ++ [y]).length) (h2 : i < (es.push e).size),TagE ok w (u ++ [y])[i] (es.push e)[i] ∧ (es.push e)[i].born < clock + 1) := by
  refine ⟨by simp [hsz],fun i h1 h2 => ?_⟩
  simp only [List.length_append,List.length_cons,List.length_nil] at h1
  by_cases hi : i < u.length
  · rw [List.getElem_append_left hi,Array.getElem_push_lt (by omega)]
    obtain ⟨a,b⟩ := h i hi (by omega)
    exact ⟨a,by omega⟩
  · have : i = es.size := by omega
    subst this
    rw [Array.getElem_push_eq,List.getElem_append_right (by omega)]
    simp only [hsz,Nat.sub_self,List.getElem_cons_zero]
    exact ⟨he,by omega⟩
theorem inj_push {es : Array MapEntry} {clock : Nat} (h : ∀ i j (h1 : i < es.size) (h2 : j < es.size),es[i].born = es[j].born → i = j) (hc : ∀ i (h1 : i < es.size),es[i].born < clock) {e : MapEntry} (hb : e.born = clock) :
    ∀ i j (h1 : i < (es.push e).size) (h2 : j < (es.push e).size),(es.push e)[i].born = (es.push e)[j].born → i = j := by
  intro i j h1 h2 he
  simp only [Array.size_push] at h1 h2
  rw [Array.getElem_push,Array.getElem_push] at he
  split at he
  · rename_i hi
    split at he
    · rename_i hj;exact h i j hi hj he
    · have := hc i hi;omega
  · split at he
    · rename_i hj;have := hc j hj;omega
    · omega
end Ms
namespace Ms
open Go
theorem RepS.intro {d : Nat} {fs : List Fld} {ok : Blocks} {w : World} {t : Tree} {cs c : List Value} {v : Value} (h : cs = c ++ [v]) (h1 : RepL (RepS true d) (szS true d) ok w t fs 0 c) (h2 : TagsM ok w v t.u) : RepS true (d + 1) fs ok w t cs :=
  ⟨c,[v],h,h1,by rw [if_pos rfl];exact ⟨v,rfl,h2⟩⟩
theorem RepL.nil {R : List Fld → Rel Tree} {S : List Fld → Nat} {ok : Blocks} {w : World} {t : Tree} {i : Nat} : RepL R S ok w t [] i [] := rfl
theorem RepL.cons {R : List Fld → Rel Tree} {S : List Fld → Nat} {ok : Blocks} {w : World} {t : Tree} {f : Fld} {fs : List Fld} {i : Nat} {c rest : List Value} (h : RepF R S f ok w (t.at i) c) (hr : RepL R S ok w t fs (i + 1) rest) : RepL R S ok w t (f :: fs) i (c ++ rest) :=
  ⟨c,rest,rfl,h,hr⟩
section
variable {P : List Fld → Tree → Prop} {V : Int} {f : Fld} {t : Tree} (h : FitF P V f t)
include h
theorem FitF.notnull (hn : f.null < 0) : t.null = false := by
  rw [h.1];unfold nullS
  have : decide (f.null ≥ 0) = false := by simp;omega
  rw [this];simp
theorem FitF.list (hk : f.kind = 11) : t.l.length ≤ 32767 ∧ ∀ x ∈ t.l,x.null = false ∧ Fit1 P f.of f.sub x := by
  have := h.2;rw [if_pos hk] at this;exact this
theorem FitF.one (hk : f.kind ≠ 11) : Fit1 P f.kind f.sub t := by
  have := h.2;rw [if_neg hk] at this;exact this
theorem FitF.text (hk : f.kind = 8 ∨ f.kind = 9) : t.s.length ≤ 32767 := (h.one (by omega)).1 hk
end
theorem Lists.len {t : Tree} (h : Lists t) : t.l.length ≤ 32767 := by cases h;assumption
theorem Lists.ulen {t : Tree} (h : Lists t) : t.u.length ≤ 32767 := by cases h;assumption
theorem Lists.get {t : Tree} (h : Lists t) {i : Nat} (hi : i < t.l.length) : Lists t.l[i] := by
  cases h with
  | mk h1 h2 h3 => exact h3 i hi
theorem Lists.at {t : Tree} (h : Lists t) (i : Nat) : Lists (t.at i) := by
  by_cases hi : i < t.l.length
  · have e : t.at i = t.l[i] := by simp [Tree.at,hi]
    rw [e];exact h.get hi
  · have e : t.at i = .zero := by simp [Tree.at,hi]
    rw [e];exact .mk (by simp) (by simp) (fun i h => by simp at h)
end Ms
namespace Ms
open Go
theorem and1_i64 (n : Int) : ((BitVec.ofInt (kbits .i64) n &&& BitVec.ofInt (kbits .i64) 1).toNat : Int) = n % 2 := by
  show ((BitVec.ofInt 64 n &&& BitVec.ofInt 64 1).toNat : Int) = n % 2
  rw [BitVec.toNat_and]
  have h1 : (BitVec.ofInt 64 1).toNat = 1 := by decide
  rw [h1,Nat.and_one_is_mod,BitVec.toNat_ofInt]
  omega
theorem GrowR.made {α : Type} {R : Rel α} {size : Nat} {ok : Blocks} {B tb : Nat} {w : World} {E : TypeId} {g cap : Nat} {c : Array Value} (h : blk w g = some (c,E,(0,0))) (hc : c.size = cap * size) (hB : B ≤ g) : GrowR R size ok B tb w E (.slice (some ⟨g,0,none⟩) 0 cap) [] :=
  ⟨[],⟨⟨by simp,.inr ⟨g,cap,c.toList,(0,0),by simp,hB,by simpa using h,by simpa using hc,thaw_00 _ _,Nat.zero_le _⟩⟩,by simp [Css]⟩,rfl,fun i h => by simp at h⟩
theorem GrowR.some {α : Type} {R : Rel α} {size : Nat} {ok : Blocks} {B tb : Nat} {w : World} {E : TypeId} {v : Value} {xs : List α} (h : GrowR R size ok B tb w E v xs) (hv : v ≠ .slice none 0 0) : ∃ a n k,v = .slice (some a) n k := by
  obtain ⟨css,h1,_⟩ := h.ex
  rcases h1.1.2 with ⟨h2,_⟩ | ⟨g,cap,rest,fr,h2,_⟩
  · exact absurd h2 hv
  · exact ⟨_,_,_,h2⟩
end Ms
namespace Ms
abbrev OkS (ok : Blocks) (n : Nat) : Blocks := fun b => ok b ∧ b < n
abbrev OkF (ok : Blocks) (n h : Nat) : Blocks := fun b => OkS ok n b ∨ h ≤ b
end Ms
namespace Ms
open Go
theorem TagsG.lt {ok : Blocks} {L : Nat} {w : World} {q : Option Nat} {u : List TagD} (h : TagsG ok L w (.map q) u) {b : Nat} (hq : q = some b) : b < w.heap.size ∧ L ≤ b := by
  subst hq
  rcases h with ⟨h,_⟩ | ⟨r,es,clock,h,g2,g3,_⟩
  · cases h
  · cases h;exact ⟨heap_lt g3,g2⟩
end Ms
namespace Ms
open Go
section
variable {R : List Fld → Rel Tree} {S : List Fld → Nat} {ok : Blocks} {w : World} {t : Tree} {f : Fld} {fs : List Fld} {i : Nat} {rest : List Value}
theorem RepL.cons1 {v : Value} (h : RepF R S f ok w (t.at i) [v]) (hr : RepL R S ok w t fs (i + 1) rest) : RepL R S ok w t (f :: fs) i (v :: rest) := ⟨[v],rest,rfl,h,hr⟩
theorem RepL.cons16 {x0 x1 x2 x3 x4 x5 x6 x7 x8 x9 x10 x11 x12 x13 x14 x15 : Value} (h : RepF R S f ok w (t.at i) [x0,x1,x2,x3,x4,x5,x6,x7,x8,x9,x10,x11,x12,x13,x14,x15]) (hr : RepL R S ok w t fs (i + 1) rest) :
    RepL R S ok w t (f :: fs) i (x0 :: x1 :: x2 :: x3 :: x4 :: x5 :: x6 :: x7 :: x8 :: x9 :: x10 :: x11 :: x12 :: x13 :: x14 :: x15 :: rest) := ⟨_,rest,rfl,h,hr⟩
end
end Ms
namespace Ms
open Go
theorem cellsAt_full {x : Array Value} {n : Nat} (h : x.size = n) : cellsAt x 0 n = some (.agg x) := by
  subst h
  rw [cellsAt_ok (by omega),Nat.zero_add,Array.extract_size]
end Ms

namespace Ms
open Nat renaming reduceEqDiff → n0,reduceAdd → n1,reduceMul → n2,reduceSub → n3,reduceLT → n4,reduceLeDiff → n5
open Int renaming reduceEq → i0,reduceLT → i1,reduceLE → i2,reduceNeg → i3,reduceAdd → i4,reduceSub → i5,reduceMul → i6,reduceToNat → i7
set_option maxRecDepth 4000
open Go Go.Proofs Go.Shelf
attribute [local congr] W_congr WPsq_congr WPp_congr optK_congr addrK_congr intK_congr boolK_congr sliceK_congr tupleK_congr funcK_congr Fn_congr rawK_congr takeK_congr stepK_congr convK_congr aggK_congr

end Ms

namespace Ms
open Go.World renaming size_alloc → qI
open Ms renaming size_wr → qJ,size_drew → qK,not_noB → qL
open W renaming seqR → qA,seq → qB,regR → qC,condK → qD,block → qE,skip → qF,ret → qG,exit → qH
open Nat renaming reduceEqDiff → n0,reduceAdd → n1,reduceMul → n2,reduceSub → n3,reduceLT → n4,reduceLeDiff → n5
open Int renaming reduceEq → i0,reduceLT → i1,reduceLE → i2,reduceNeg → i3,reduceAdd → i4,reduceSub → i5,reduceMul → i6,reduceToNat → i7
set_option maxRecDepth 4000
open Go Go.Proofs Go.Shelf
attribute [local congr] W_congr WPsq_congr WPp_congr optK_congr addrK_congr intK_congr boolK_congr sliceK_congr tupleK_congr funcK_congr Fn_congr rawK_congr takeK_congr stepK_congr convK_congr aggK_congr

theorem version_fn (w : World) (n m : Nat) (hn : n < 256) (hm : m < 1000) : Fn Tryd.prog 8 #[.int .u8 n,.int .i64 m] w fun r w' => r = .int .i64 ((n % (m + 1) : Nat) : Int) ∧ w' = w := by
  have e1 : IntKind.i64.wrap (n : Int) = n := i64_wrap (by omega)
  have e2 : IntKind.i64.wrap ((m : Int) + 1) = (m : Int) + 1 := i64_wrap (by omega)
  have e3 : ¬ ((m : Int) + 1 = 0) := by omega
  have e4 : ((n : Int).tmod ((m : Int) + 1)) = ((n % (m + 1) : Nat) : Int) := by rw [Int.tmod_eq_emod_of_nonneg (by omega),Int.natCast_emod];rfl
  refine fn_of_W Tryd.func8 rfl Tryd.results8 Tryd.ntmps8 rfl ?_
  repeat ((first | refine qA rfl ?_|refine qB ?_|refine qC rfl ?_|refine qD ?_|refine qE ?_|refine qF ?_|refine qG ?_|refine qH ?_);try simp (maxSteps:=1000000)(disch:=(first|omega|(simp only [qI,qJ,qK]<;>omega)|exact qL _)) only [go_sem,↓reduceIte,n0,reduceCtorEq,n1,n2,n3,n4,n5,i0,i1,i2,i3,i4,i5,i6,i7,e1,e2,e3,e4])
end Ms

namespace Ms
open Nat renaming reduceEqDiff → n0,reduceAdd → n1,reduceMul → n2,reduceSub → n3,reduceLT → n4,reduceLeDiff → n5
open Int renaming reduceEq → i0,reduceLT → i1,reduceLE → i2,reduceNeg → i3,reduceAdd → i4,reduceSub → i5,reduceMul → i6,reduceToNat → i7
set_option maxRecDepth 4000
open Go Go.Proofs Go.Shelf

end Ms

namespace Ms
open Nat renaming reduceEqDiff → n0,reduceAdd → n1,reduceMul → n2,reduceSub → n3,reduceLT → n4,reduceLeDiff → n5
open Int renaming reduceEq → i0,reduceLT → i1,reduceLE → i2,reduceNeg → i3,reduceAdd → i4,reduceSub → i5,reduceMul → i6,reduceToNat → i7
set_option maxRecDepth 4000
open Go Go.Proofs Go.Shelf
attribute [local congr] W_congr WPsq_congr WPp_congr optK_congr addrK_congr intK_congr boolK_congr sliceK_congr tupleK_congr funcK_congr Fn_congr rawK_congr takeK_congr stepK_congr convK_congr aggK_congr

theorem calls_bool {P : Program} {f : Nat} {args : Array Value} {w W : World} {b : Bool} (h : Fn P f args w fun r w' => r = .bool b ∧ w' = W.drew) : Calls P f args w fun e w' => e = .returned (.bool b) ∧ ∃ q,w' = W.drewN q :=
  Calls.mono h fun e w' he => by
    cases e with
    | returned v => exact ⟨by rw [he.1],1,he.2⟩
    | _ => exact he.elim

end Ms

namespace Ms
open Nat renaming reduceEqDiff → n0,reduceAdd → n1,reduceMul → n2,reduceSub → n3,reduceLT → n4,reduceLeDiff → n5
open Int renaming reduceEq → i0,reduceLT → i1,reduceLE → i2,reduceNeg → i3,reduceAdd → i4,reduceSub → i5,reduceMul → i6,reduceToNat → i7
set_option maxRecDepth 4000
open Go Go.Proofs Go.Shelf
attribute [local congr] W_congr WPsq_congr WPp_congr optK_congr addrK_congr intK_congr boolK_congr sliceK_congr tupleK_congr funcK_congr Fn_congr rawK_congr takeK_congr stepK_congr convK_congr aggK_congr

end Ms

namespace Ms
open Nat renaming reduceEqDiff → n0,reduceAdd → n1,reduceMul → n2,reduceSub → n3,reduceLT → n4,reduceLeDiff → n5
open Int renaming reduceEq → i0,reduceLT → i1,reduceLE → i2,reduceNeg → i3,reduceAdd → i4,reduceSub → i5,reduceMul → i6,reduceToNat → i7
set_option maxRecDepth 4000
open Go Go.Proofs Go.Shelf
attribute [local congr] W_congr WPsq_congr WPp_congr optK_congr addrK_congr intK_congr boolK_congr sliceK_congr tupleK_congr funcK_congr Fn_congr rawK_congr takeK_congr stepK_congr convK_congr aggK_congr

theorem oneTags_len : ∀ (l : List TagD),(∀ y ∈ l,y.1 < 2 ^ 32 ∧ y.2.length ≤ 32767) → (l.flatMap oneTag).length ≤ l.length * 32777
  | [],_ => by simp
  | y :: l,h => by
    have ih := oneTags_len l fun z hz => h z (by simp [hz])
    obtain ⟨h1,h2⟩ := h y (by simp)
    have a := uvarS_len 4 y.1 (by omega)
    have b := uvarS_len 4 y.2.length (by omega)
    simp only [List.flatMap_cons,List.length_append,List.length_cons,oneTag]
    omega

end Ms

namespace Ms
open Go
theorem All2.nil {α β : Type} {R : α → β → Prop} : All2 R [] [] := ⟨rfl,fun i h => by simp at h⟩
theorem All2.cons {α β : Type} {R : α → β → Prop} {x : α} {y : β} {xs : List α} {ys : List β} (h : R x y) (t : All2 R xs ys) : All2 R (x :: xs) (y :: ys) := by
  refine ⟨by simp [t.1],fun i h1 h2 => ?_⟩
  cases i with
  | zero => exact h
  | succ i => exact t.2 i (by simpa using h1) (by simpa using h2)
theorem FldsV.litO {ok : Blocks} {w : World} {b : Nat} {fr : Nat × Nat} {T : TypeId} {fs : List Fld} {css : List (List Value)} (hok : ok b) (h : blk w b = some (css.flatten.toArray,T,fr)) (hl : ∀ cs ∈ css,cs.length = 8) (ha : All2 (FldC ok w) fs css) :
    FldsV ok w (.slice (some ⟨b,0,none⟩) fs.length fs.length) fs := by
  refine ⟨css,⟨some ⟨b,0,none⟩,fs.length,by rw [ha.1],by rw [ha.1];exact Nat.le_refl _,hl,.inr ⟨_,rfl,rfl,hok,_,h,fun i hi => ?_⟩⟩,ha⟩
  simp only [Nat.zero_add,List.getElem?_toArray]
theorem FldsV.none (ok : Blocks) (w : World) : FldsV ok w (.slice none 0 0) [] := ⟨[],⟨_,0,rfl,Nat.le_refl _,by simp,.inl rfl⟩,rfl,fun i h => by simp at h⟩
theorem FldsV.stay {ok' : Blocks} {B n : Nat} {w w' : World} {v : Value} {l : List Fld} (h : FldsV (fun b => n ≤ b) w v l) (u : Upd (fun b => b = B) w w') (hn : B < n) (hB : ∀ b,n ≤ b → ok' b) : FldsV ok' w' v l :=
  (h.keep (u.keeps fun b _ hk e => by omega)).weaken fun b _ hk => hB b hk
abbrev P8 : List (Nat × Nat) := [(0,1),(1,1),(2,1),(3,1),(4,1),(5,1),(6,1),(7,1)]
theorem P8_get : ∀ i,i < 8 → P8[i]? = some (i,1) := by decide
def fillN : List Value → List (Nat × Value) → Option (Array Value)
  | ds,[] => some ds.toArray
  | ds,(i,v) :: ps => if flat v = true ∧ i < 8 then fillN (ds.set i v) ps else fillL P8 ds.toArray ((i,v) :: ps)
theorem fillN_eq : ∀ (ps : List (Nat × Value)) (ds : List Value),ds.length = 8 → fillL P8 ds.toArray ps = fillN ds ps
  | [],_,_ => rfl
  | (i,v) :: ps,ds,h => by
    rw [fillN]
    split
    · rename_i hc
      have hv : v.cells = #[v] := by
        have := hc.1
        cases v <;> first | rfl | (simp [flat] at this)
      rw [← fillN_eq ps (ds.set i v) (by simpa using h)]
      rw [fillL,P8_get i hc.2]
      simp only [hv,List.size_toArray,List.length_cons,List.length_nil,Nat.zero_add,h,true_and]
      rw [if_pos (by omega)]
      simp [wrArr]
    · rfl
theorem fill_fld (d0 d1 d2 d3 d4 d5 d6 d7 : Value) (ps : List (Nat × Value)) : fillL [(0,1),(1,1),(2,1),(3,1),(4,1),(5,1),(6,1),(7,1)] #[d0,d1,d2,d3,d4,d5,d6,d7] ps = fillN [d0,d1,d2,d3,d4,d5,d6,d7] ps := fillN_eq ps _ rfl
theorem fillN_nil (ds : List Value) : fillN ds [] = some ds.toArray := nr rfl
theorem fillN_int (ds : List Value) (i : Nat) (k : IntKind) (n : Int) (ps : List (Nat × Value)) : fillN ds ((i,.int k n) :: ps) = if i < 8 then fillN (ds.set i (.int k n)) ps else fillL P8 ds.toArray ((i,.int k n) :: ps) := by
  rw [fillN];simp [flat]
theorem fillN_slice (ds : List Value) (i : Nat) (a : Option Addr) (n c : Nat) (ps : List (Nat × Value)) : fillN ds ((i,.slice a n c) :: ps) = if i < 8 then fillN (ds.set i (.slice a n c)) ps else fillL P8 ds.toArray ((i,.slice a n c) :: ps) := by
  rw [fillN];simp [flat]
end Ms

namespace Ms
open Nat renaming reduceEqDiff → n0,reduceAdd → n1,reduceMul → n2,reduceSub → n3,reduceLT → n4,reduceLeDiff → n5
open Int renaming reduceEq → i0,reduceLT → i1,reduceLE → i2,reduceNeg → i3,reduceAdd → i4,reduceSub → i5,reduceMul → i6,reduceToNat → i7
set_option maxRecDepth 4000
end Ms

namespace Ms
open Go

theorem RepS.inv {d : Nat} {fs : List Fld} {ok : Blocks} {w : World} {t : Tree} {cs : List Value} (h : RepS true (d + 1) fs ok w t cs) :
    ∃ c v,cs = c ++ [v] ∧ RepL (RepS true d) (szS true d) ok w t fs 0 c ∧ TagsM ok w v t.u := by
  obtain ⟨c,m,h1,h2,h3⟩ := h
  rw [if_pos rfl] at h3
  obtain ⟨v,rfl,h4⟩ := h3
  exact ⟨c,v,h1,h2,h4⟩
theorem Fit1.text {P : List Fld → Tree → Prop} {k : Int} {sub : List Fld} {t : Tree} (h : Fit1 P k sub t) (hk : k = 8 ∨ k = 9) : t.s.length ≤ 32767 := h.1 hk

def FitWF (P : List Fld → Tree → Prop) (v : Int) (f : Fld) (t : Tree) : Prop :=
  (t.null = nullS f v t ∨ (f.null < 0 ∧ (f.kind = 9 ∨ f.kind = 11) ∧ t.null = true ∧ t.s = [] ∧ t.l = [])) ∧ (if f.kind = 11 then t.l.length ≤ 32767 ∧ ∀ x ∈ t.l,Fit1 P f.of f.sub x else Fit1 P f.kind f.sub t)
def FitWL (P : List Fld → Tree → Prop) (v : Int) (t : Tree) : List Fld → Nat → Prop
  | [],_ => True
  | f :: fs,i => (hasS f v = true → FitWF P v f (t.at i)) ∧ FitWL P v t fs (i + 1)
def FitW (v : Int) : Nat → List Fld → Tree → Prop
  | 0,fs,_ => fs = []
  | d + 1,fs,t => FitWL (FitW v d) v t fs 0 ∧ FitU fs t.u
theorem FitP.weak {v : Int} : ∀ {d : Nat} {fs : List Fld} {t : Tree},FitP v d fs t → FitW v d fs t
  | 0,_,_,h => h
  | d + 1,fs,t,h => by
    refine ⟨?_,h.2⟩
    have h1 : ∀ {k : Int} {sub : List Fld} {x : Tree},Fit1 (FitP v d) k sub x → Fit1 (FitW v d) k sub x := fun h => ⟨h.1,fun hk => (h.2 hk).weak⟩
    have : ∀ (l : List Fld) (i : Nat),FitL (FitP v d) v t l i → FitWL (FitW v d) v t l i := by
      intro l
      induction l with
      | nil => intro i _;trivial
      | cons f l ih =>
        intro i h
        refine ⟨fun _ => ⟨.inl h.1.1,?_⟩,ih _ h.2⟩
        have h2 := h.1.2
        split
        · rename_i hk;rw [if_pos hk] at h2;exact ⟨h2.1,fun x hx => h1 (h2.2 x hx).2⟩
        · rename_i hk;rw [if_neg hk] at h2;exact h1 h2
    exact this _ _ h.1
theorem nullS_neg {f : Fld} {v : Int} {t : Tree} (h : f.null < 0) : nullS f v t = false := by
  unfold nullS
  have : decide (f.null ≥ 0) = false := by simp;omega
  rw [this];simp
section
variable {P : List Fld → Tree → Prop} {V : Int} {f : Fld} {t : Tree} (h : FitWF P V f t)
include h
theorem FitWF.isnull (hn : 0 ≤ f.null) : t.null = nullS f V t := by
  rcases h.1 with h1 | h1
  · exact h1
  · omega
theorem FitWF.list (hk : f.kind = 11) : t.l.length ≤ 32767 ∧ ∀ x ∈ t.l,Fit1 P f.of f.sub x := by
  have := h.2;rw [if_pos hk] at this;exact this
theorem FitWF.one (hk : f.kind ≠ 11) : Fit1 P f.kind f.sub t := by
  have := h.2;rw [if_neg hk] at this;exact this
theorem FitWF.text (hk : f.kind = 8 ∨ f.kind = 9) : t.s.length ≤ 32767 := (h.one (by omega)).1 hk
theorem FitWF.empty (hn : f.null < 0) (ht : t.null = true) : t.s = [] ∧ t.l = [] := by
  rcases h.1 with h1 | h1
  · rw [nullS_neg hn,ht] at h1;cases h1
  · exact h1.2.2.2
end
theorem RepF_bytesW {P : List Fld → Tree → Prop} {V : Int} {R : List Fld → Rel Tree} {S : List Fld → Nat} {f : Fld} {ok : Blocks} {w : World} {t : Tree} {c : List Value} (hg : FitWF P V f t) (h : f.kind = 9) (hn : f.null < 0) (hr : RepF R S f ok w t c) : ∃ v,c = [v] ∧ BytesV ok w v t.s := by
  obtain ⟨v,rfl,ho⟩ := (RepF_bytes h).1 hr
  refine ⟨v,rfl,?_⟩
  unfold OptBytes at ho
  split at ho
  · rename_i ht
    rw [(hg.empty hn ht).1,ho]
    exact ⟨none,0,rfl,Nat.le_refl _,by simp,.inl rfl⟩
  · exact ho.1
theorem RepF_listW {P : List Fld → Tree → Prop} {V : Int} {R : List Fld → Rel Tree} {S : List Fld → Nat} {f : Fld} {ok : Blocks} {w : World} {t : Tree} {c : List Value} (hg : FitWF P V f t) (h : f.kind = 11) (hn : f.null < 0) (hr : RepF R S f ok w t c) : ∃ v,c = [v] ∧ SlR ok w (sz1 S f.of f.sub) (Rep1 R f.of f.sub ok w) v t.l := by
  unfold RepF at hr
  rw [if_neg (by omega),if_pos h] at hr
  obtain ⟨v,rfl,hr⟩ := hr
  refine ⟨v,rfl,?_⟩
  split at hr
  · rename_i ht
    rw [(hg.empty hn ht).2,hr]
    exact ⟨[],⟨none,0,rfl,Nat.le_refl _,by simp,.inl rfl⟩,rfl,fun i h => by simp at h⟩
  · exact hr.1
theorem RepF_any {R : List Fld → Rel Tree} {S : List Fld → Nat} {f : Fld} {ok : Blocks} {w : World} {t : Tree} {c : List Value} (h : f.kind = 9 ∨ f.kind = 11) (hr : RepF R S f ok w t c) : ∃ v,c = [v] := by
  unfold RepF Rep1 at hr
  rcases h with h | h
  · rw [if_neg (by omega),if_neg (by omega),if_neg (by omega),if_neg (by omega),if_pos h] at hr
    obtain ⟨v,hv,_⟩ := hr;exact ⟨v,hv⟩
  · rw [if_neg (by omega),if_pos h] at hr
    obtain ⟨v,hv,_⟩ := hr;exact ⟨v,hv⟩

def plainL (pt : List Fld → Int → Bool → Tree → List UInt8) (v : Int) (flex : Bool) (t : Tree) : List Fld → Nat → List UInt8
  | [],_ => []
  | f :: fs,i => (if f.tag < 0 ∧ hasS f v = true then fieldS pt f v flex (t.at i) else []) ++ plainL pt v flex t fs (i + 1)
theorem plainL_eq (pt : List Fld → Int → Bool → Tree → List UInt8) (v : Int) (flex : Bool) (t : Tree) : ∀ (fs : List Fld) (i : Nat),(fs.zipIdx i).flatMap (fun (f,i) => if f.tag < 0 ∧ hasS f v = true then fieldS pt f v flex (t.at i) else []) = plainL pt v flex t fs i
  | [],_ => rfl
  | f :: fs,i => by
    rw [List.zipIdx_cons,List.flatMap_cons,plainL_eq pt v flex t fs (i + 1)];rfl
theorem plainS_L (pt : List Fld → Int → Bool → Tree → List UInt8) (fs : List Fld) (v : Int) (flex : Bool) (t : Tree) : plainS pt fs v flex t = plainL pt v flex t fs 0 := plainL_eq pt v flex t fs 0
theorem plainL_has {pt : List Fld → Int → Bool → Tree → List UInt8} {v : Int} {flex : Bool} {t : Tree} {f : Fld} {fs : List Fld} {i : Nat} {X Y : List UInt8} (ht : f.tag < 0) (h : hasS f v = true) (hX : fieldS pt f v flex (t.at i) = X) (hY : plainL pt v flex t fs (i + 1) = Y) :
    plainL pt v flex t (f :: fs) i = X ++ Y := by
  rw [plainL,if_pos ⟨ht,h⟩,hX,hY]
theorem plainL_not {pt : List Fld → Int → Bool → Tree → List UInt8} {v : Int} {flex : Bool} {t : Tree} {f : Fld} {fs : List Fld} {i : Nat} {Y : List UInt8} (h : hasS f v = false) (hY : plainL pt v flex t fs (i + 1) = Y) :
    plainL pt v flex t (f :: fs) i = Y := by
  rw [plainL,if_neg (by rw [h];simp),hY,List.nil_append]
theorem hasS_t {f : Fld} {v : Int} (h1 : f.fr ≤ v) (h2 : f.to < 0 ∨ v ≤ f.to) : hasS f v = true := by
  unfold hasS;simp only [Bool.and_eq_true,Bool.or_eq_true,decide_eq_true_eq];exact ⟨h1,h2⟩
theorem hasS_f {f : Fld} {v : Int} (h : v < f.fr ∨ (0 ≤ f.to ∧ f.to < v)) : hasS f v = false := by
  unfold hasS;simp only [Bool.and_eq_false_iff,Bool.or_eq_false_iff,decide_eq_false_iff_not]
  rcases h with h | h
  · exact .inl (by omega)
  · exact .inr ⟨by omega,by omega⟩
theorem partS_no {d : Nat} {fs : List Fld} {v : Int} {t : Tree} {Y : List UInt8} (hY : plainL (partS d) v false t fs 0 = Y) : partS (d + 1) fs v false t = Y := by
  rw [partS_eq];unfold partT;rw [if_neg (by decide),plainS_L,hY]
theorem partS_yes {d : Nat} {fs : List Fld} {v : Int} {t : Tree} {Y : List UInt8} (hk : knownS fs = 0) (hu : FitU fs t.u) (hY : plainL (partS d) v true t fs 0 = Y) : partS (d + 1) fs v true t = Y ++ (uvarS t.u.length ++ t.u.flatMap oneTag) := by
  rw [partS_eq];unfold partT;rw [if_pos rfl,plainS_L,hY,unknownS_id hu]
  have h0 : tagsS (partS d) (d + 1) fs v true t = [] := by unfold tagsS;rw [hk];rfl
  rw [h0]
  simp only [List.length_nil,Nat.zero_add,List.flatMap_nil,List.nil_append]
  congr 2
  refine flatMap_ext fun x hx => ?_
  unfold unkT oneTag
  rw [wholeS_id (hu.2.1 x hx).1]

section
variable {P : List Fld → Tree → Prop} {pt : List Fld → Int → Bool → Tree → List UInt8} {v : Int} {f : Fld} {t : Tree}
theorem fieldS_one {flex : Bool} (h : f.kind ≠ 10 ∧ f.kind ≠ 11) : fieldS pt f v flex t = valueS pt f.kind f.sub (nullS f v t) v flex t := by
  unfold fieldS;rw [if_neg h.2,if_neg (fun h' => h.1 h'.1)]
theorem fieldS_num {flex : Bool} (k : Int) (hk : f.kind = k) (h : k = 1 ∨ k = 2 ∨ k = 3 ∨ k = 4 ∨ k = 5) : fieldS pt f v flex t = fixedS t.n (widthS k) := by
  rw [fieldS_one (by omega)]
  unfold valueS
  rw [if_neg (by omega),if_neg (by omega),if_neg (by omega),if_neg (by omega),if_neg (by omega),hk]
theorem b8_bool (n : Int) : [b8 (n % 2)] = [if decide (n % 2 = 1) = true then (1 : UInt8) else 0] := by
  have h : n % 2 = 0 ∨ n % 2 = 1 := by omega
  rcases h with h | h <;> rw [h] <;> rfl
theorem fieldS_bool {flex : Bool} (hk : f.kind = 0) : fieldS pt f v flex t = [if decide (t.n % 2 = 1) = true then 1 else 0] := by
  rw [fieldS_one (by omega)]
  unfold valueS
  rw [if_pos hk,b8_bool]
theorem fieldS_uuid {flex : Bool} (hk : f.kind = 7) : fieldS pt f v flex t = uuidS t.s := by
  rw [fieldS_one (by omega)]
  unfold valueS
  rw [if_neg (by omega),if_pos hk];rfl
theorem counted_some {flex : Bool} (n k : Nat) : countedS flex false n k = if flex = true then uvarS (n + 1) else fixedS n k := by
  unfold countedS
  cases flex <;> simp
theorem counted_none {flex : Bool} (n k : Nat) : countedS flex true n k = if flex = true then [0] else fixedS (-1) k := by
  unfold countedS
  cases flex <;> simp
theorem valueS_text {flex null : Bool} {sub : List Fld} (hl : t.s.length ≤ 32767) : valueS pt 8 sub null v flex t = if null = true then (if flex = true then [0] else fixedS (-1) 2) else (if flex = true then uvarS (t.s.length + 1) else fixedS t.s.length 2) ++ t.s := by
  unfold valueS
  rw [if_neg (by omega),if_neg (by omega),if_pos rfl]
  cases null with
  | true => simp only [if_true,counted_none,List.append_nil]
  | false => simp only [Bool.false_eq_true,if_false,wholeS_id hl,counted_some]
theorem valueS_bytes {flex null : Bool} {sub : List Fld} (hl : t.s.length ≤ 32767) : valueS pt 9 sub null v flex t = if null = true then (if flex = true then [0] else fixedS (-1) 4) else (if flex = true then uvarS (t.s.length + 1) else fixedS t.s.length 4) ++ t.s := by
  unfold valueS
  rw [if_neg (by omega),if_neg (by omega),if_neg (by omega),if_pos rfl]
  cases null with
  | true => simp only [if_true,counted_none,List.append_nil]
  | false => simp only [Bool.false_eq_true,if_false,wholeS_id hl,counted_some]
theorem valueS_num {flex null : Bool} {sub : List Fld} (k : Int) (h : k = 1 ∨ k = 2 ∨ k = 3 ∨ k = 4 ∨ k = 5) : valueS pt k sub null v flex t = fixedS t.n (widthS k) := by
  unfold valueS
  rw [if_neg (by omega),if_neg (by omega),if_neg (by omega),if_neg (by omega),if_neg (by omega)]
theorem valueS_part {flex null : Bool} {sub : List Fld} : valueS pt 10 sub null v flex t = pt sub v flex t := by
  unfold valueS
  rw [if_neg (by omega),if_neg (by omega),if_neg (by omega),if_neg (by omega),if_pos rfl]
section
variable (h : FitWF P v f t)
include h
theorem fieldS_ptr_t (hk : f.kind = 8) (hn : 0 ≤ f.null) : fieldS pt f v true t = if t.null = true then [0] else uvarS (t.s.length + 1) ++ t.s := by
  rw [fieldS_one (by omega),hk,valueS_text (h.text (.inl hk)),← h.isnull hn];rfl
theorem fieldS_ptr_f (hk : f.kind = 8) (hn : 0 ≤ f.null) : fieldS pt f v false t = if t.null = true then fixedS (-1) 2 else fixedS t.s.length 2 ++ t.s := by
  rw [fieldS_one (by omega),hk,valueS_text (h.text (.inl hk)),← h.isnull hn];rfl
theorem fieldS_text_t (hk : f.kind = 8) (hn : f.null < 0) : fieldS pt f v true t = uvarS (t.s.length + 1) ++ t.s := by
  rw [fieldS_one (by omega),hk,valueS_text (h.text (.inl hk)),nullS_neg hn];rfl
theorem fieldS_text_f (hk : f.kind = 8) (hn : f.null < 0) : fieldS pt f v false t = fixedS t.s.length 2 ++ t.s := by
  rw [fieldS_one (by omega),hk,valueS_text (h.text (.inl hk)),nullS_neg hn];rfl
theorem fieldS_bytes_t (hk : f.kind = 9) (hn : f.null < 0) : fieldS pt f v true t = uvarS (t.s.length + 1) ++ t.s := by
  rw [fieldS_one (by omega),hk,valueS_bytes (h.text (.inr hk)),nullS_neg hn];rfl
theorem fieldS_bytes_f (hk : f.kind = 9) (hn : f.null < 0) : fieldS pt f v false t = fixedS t.s.length 4 ++ t.s := by
  rw [fieldS_one (by omega),hk,valueS_bytes (h.text (.inr hk)),nullS_neg hn];rfl
theorem fieldS_list_t {g : Tree → List UInt8} (hk : f.kind = 11) (hn : f.null < 0) (hg : ∀ x ∈ t.l,valueS pt f.of f.sub false v true x = g x) : fieldS pt f v true t = uvarS (t.l.length + 1) ++ t.l.flatMap g := by
  unfold fieldS
  rw [if_pos hk,nullS_neg hn]
  simp only [Bool.false_eq_true,if_false,thingsS_id (h.list hk).1,counted_some,if_true]
  rw [flatMap_ext hg]
theorem fieldS_list_f {g : Tree → List UInt8} (hk : f.kind = 11) (hn : f.null < 0) (hg : ∀ x ∈ t.l,valueS pt f.of f.sub false v false x = g x) : fieldS pt f v false t = fixedS t.l.length 4 ++ t.l.flatMap g := by
  unfold fieldS
  rw [if_pos hk,nullS_neg hn]
  simp only [Bool.false_eq_true,if_false,thingsS_id (h.list hk).1,counted_some]
  rw [flatMap_ext hg]
end
end
theorem wrap8 (n : Int) : fixedS (IntKind.i8.wrap n) 1 = fixedS n 1 := by
  rw [fixedS_one,fixedS_one,b8_eq]
  simp [IntKind.wrap,IntKind.bits,IntKind.signed]
  split <;> omega
theorem wrap16 (n : Int) : fixedS (IntKind.i16.wrap n) 2 = fixedS n 2 := by
  have h : (IntKind.i16.wrap n) % (256 * 256) = n % (256 * 256) := by
    simp [IntKind.wrap,IntKind.bits,IntKind.signed]
    split <;> omega
  have e1 := b8_fdiv (x := IntKind.i16.wrap n) (y := n) 256 h (by omega)
  rw [fixedS_two,fixedS_two,b8_eq (x := IntKind.i16.wrap n) (y := n) (by omega),show (256 : Int) = ((256 : Nat) : Int) from rfl,e1]
theorem wrapu16 (n : Int) : fixedS (IntKind.u16.wrap n) 2 = fixedS n 2 := by
  have h : (IntKind.u16.wrap n) % (256 * 256) = n % (256 * 256) := by
    unfold IntKind.wrap;simp [IntKind.bits,IntKind.signed]
  have e1 := b8_fdiv (x := IntKind.u16.wrap n) (y := n) 256 h (by omega)
  rw [fixedS_two,fixedS_two,b8_eq (x := IntKind.u16.wrap n) (y := n) (by omega),show (256 : Int) = ((256 : Nat) : Int) from rfl,e1]
theorem take_flatMap_len {α : Type} (l : List α) (g : α → List UInt8) (j : Nat) : ((l.take j).flatMap g).length ≤ (l.flatMap g).length := by
  have : l.flatMap g = (l.take j).flatMap g ++ (l.drop j).flatMap g := by rw [← List.flatMap_append,List.take_append_drop]
  rw [this,List.length_append];omega
theorem AppR.eqs {E : TypeId} {B : Nat} {w w' : World} {v r : Value} {s a b : List UInt8} (h : AppR E B w v s a r w') (e : a = b) : AppR E B w v s b r w' := e ▸ h
end Ms
namespace Ms
open Go
theorem wrap32 (n : Int) : fixedS (IntKind.i32.wrap n) 4 = fixedS n 4 := by
  have h : (IntKind.i32.wrap n) % 4294967296 = n % 4294967296 := by
    simp [IntKind.wrap,IntKind.bits,IntKind.signed]
    split <;> omega
  generalize IntKind.i32.wrap n = m at *
  rw [fixedS_four,fixedS_four]
  have e1 := b8_fdiv (x := m) (y := n) 256 (by omega) (by omega)
  have e2 := b8_fdiv (x := m) (y := n) 65536 (by omega) (by omega)
  have e3 := b8_fdiv (x := m) (y := n) 16777216 (by omega) (by omega)
  have e4 := b8_eq (x := m) (y := n) (by omega)
  rw [show ((256 : Nat) : Int) = 256 from rfl] at e1
  rw [show ((65536 : Nat) : Int) = 65536 from rfl] at e2
  rw [show ((16777216 : Nat) : Int) = 16777216 from rfl] at e3
  rw [e1,e2,e3,e4]
theorem cellsAt_of {x : Array Value} {l : List Value} {o n : Nat} (h : ∀ j,j < n → x[o + j]? = l[j]?) (hl : l.length = n) (hb : o + n ≤ x.size) : cellsAt x o n = some (.agg l.toArray) := by
  rw [cellsAt_ok hb,extract_of h hl]
end Ms
namespace Ms
open Go
theorem rising_keys {fs : List Fld} {u : List TagD} (h : FitU fs u) : (u.map (·.1)).Pairwise (· < ·) := List.pairwise_map.2 h.2.2
theorem tags_small {fs : List Fld} {u : List TagD} (h : FitU fs u) {ok : Blocks} {w : World} {m : Value} (ht : TagsM ok w m u) : ∀ y ∈ u,y.1 < 2 ^ 32 ∧ y.2.length ≤ 32767 := by
  intro y hy
  refine ⟨?_,(h.2.1 y hy).1⟩
  rcases ht with ⟨_,rfl⟩ | ⟨r,es,clock,_,_,_,g4,g5,_⟩
  · cases hy
  · obtain ⟨i,hi,rfl⟩ := List.getElem_of_mem hy
    exact (g5 i hi (by omega)).1.num
theorem u16_rng (n : Int) : 0 ≤ IntKind.u16.wrap n ∧ IntKind.u16.wrap n < 65536 := by
  unfold IntKind.wrap;simp [IntKind.bits,IntKind.signed];omega
theorem get_mid {pre xs post : List Value} {j : Nat} (hj : j < xs.length) : (pre ++ (xs ++ post))[pre.length + j]? = xs[j]? := by
  rw [List.getElem?_append_right (by omega),Nat.add_sub_cancel_left,List.getElem?_append_left hj]
end Ms

namespace Ms
open Go

abbrev St := Option (List UInt8)
def stLen (st : St) : Nat := (st.getD []).length
def rdN (n : Nat) (st : St) : List UInt8 × St :=
  match st with
  | some s => if n ≤ s.length then (s.take n,some (s.drop n)) else ([],none)
  | none => ([],none)
def beN (s : List UInt8) : Nat := s.foldl (fun a b => a * 256 + b.toNat) 0
def rdInt (k : IntKind) (n : Nat) (st : St) : Int × St := (k.wrap (beN (rdN n st).1),(rdN n st).2)
def uvD : Nat → List UInt8 → Option (Nat × List UInt8)
  | _,[] => none
  | 0,b :: s => if b.toNat ≤ 15 then some (b.toNat,s) else none
  | k + 1,b :: s => if b.toNat < 128 then some (b.toNat,s) else (uvD k s).map fun x => (b.toNat % 128 + 128 * x.1,x.2)
def rdUv (st : St) : Nat × St :=
  match st with
  | some s => match uvD 4 s with
    | some x => (x.1,some x.2)
    | none => (0,none)
  | none => (0,none)
def rdSpan (l : Int) (st : St) : List UInt8 × St :=
  match st with
  | some s => if 0 ≤ l ∧ l ≤ s.length then (s.take l.toNat,some (s.drop l.toNat)) else ([],none)
  | none => ([],none)
def rdLen (flex : Bool) (k : IntKind) (n : Nat) (st : St) : Int × St :=
  if flex = true then (((rdUv st).1 : Int) - 1,(rdUv st).2) else rdInt k n st
def rdStr (flex : Bool) (st : St) : List UInt8 × St := rdSpan (rdLen flex .i16 2 st).1 (rdLen flex .i16 2 st).2
def rdNStr (flex : Bool) (st : St) : (Bool × List UInt8) × St :=
  if (rdLen flex .i16 2 st).1 < 0 then ((true,[]),(rdLen flex .i16 2 st).2) else ((false,(rdStr flex st).1),(rdStr flex st).2)
def rdOct (flex : Bool) (st : St) : List UInt8 × St := rdSpan (rdLen flex .i32 4 st).1 (rdLen flex .i32 4 st).2
def rdBytes (flex : Bool) (st : St) : (Bool × List UInt8) × St :=
  if (rdLen flex .i32 4 st).1 = -1 then ((false,[]),(rdLen flex .i32 4 st).2) else (((rdOct flex st).2.isNone,(rdOct flex st).1),(rdOct flex st).2)
def rdNBytes (flex : Bool) (st : St) : (Bool × List UInt8) × St :=
  if (rdLen flex .i32 4 st).1 < 0 then ((true,[]),(rdLen flex .i32 4 st).2) else (((rdOct flex st).2.isNone,(rdOct flex st).1),(rdOct flex st).2)
def rdCnt (flex : Bool) (st : St) : Int × St := if flex = true then (IntKind.i32.wrap (IntKind.i32.wrap (rdUv st).1 - 1),(rdUv st).2) else rdInt .i32 4 st
def rdALen (flex : Bool) (st : St) : Int × St :=
  if (stLen (rdCnt flex st).2 : Int) < (rdCnt flex st).1 then (0,none) else rdCnt flex st

def tagPut (u : List TagD) (y : TagD) : List TagD := if u.any (fun x => x.1 == y.1) = true then u.map (fun x => if x.1 = y.1 then y else x) else u ++ [y]
def rdTag (u : List TagD) (st : St) : List TagD × St :=
  (tagPut u ((rdUv st).1,(rdSpan (rdUv (rdUv st).2).1 (rdUv (rdUv st).2).2).1),(rdSpan (rdUv (rdUv st).2).1 (rdUv (rdUv st).2).2).2)
def rdTagsN : Nat → List TagD → St → List TagD × St
  | 0,u,st => (u,st)
  | n + 1,u,st => rdTagsN n (rdTag u st).1 (rdTag u st).2
def rdTags (st : St) : List TagD × St := rdTagsN (rdUv st).1 [] (rdUv st).2

def Tree.num (n : Int) : Tree := .mk n [] false [] []
def Tree.oct (null : Bool) (s : List UInt8) : Tree := .mk 0 s null [] []
def kindK (k : Int) : IntKind := if k = 1 then .i8 else if k = 2 then .i16 else if k = 3 then .i32 else if k = 5 then .u16 else .i64
def rd1 (pt : List Fld → St → Tree × St) (kind : Int) (sub : List Fld) (may flex : Bool) (st : St) : Tree × St :=
  if kind = 0 then (.num (if beN (rdN 1 st).1 = 0 then 0 else 1),(rdN 1 st).2)
  else if kind = 7 then (.oct false (uuidS (rdSpan 16 st).1),(rdSpan 16 st).2)
  else if kind = 8 then (if may = true then (.oct (rdNStr flex st).1.1 (rdNStr flex st).1.2,(rdNStr flex st).2) else (.oct false (rdStr flex st).1,(rdStr flex st).2))
  else if kind = 9 then (if may = true then (.oct (rdNBytes flex st).1.1 (rdNBytes flex st).1.2,(rdNBytes flex st).2) else (.oct (rdBytes flex st).1.1 (rdBytes flex st).1.2,(rdBytes flex st).2))
  else if kind = 10 then pt sub st
  else (.num (rdInt (kindK kind) (widthS kind) st).1,(rdInt (kindK kind) (widthS kind) st).2)
def rdMany (r : St → Tree × St) : Nat → St → List Tree × St
  | 0,st => ([],st)
  | n + 1,st => ((r st).1 :: (rdMany r n (r st).2).1,(rdMany r n (r st).2).2)
def mayS (f : Fld) (v : Int) : Bool := decide (0 ≤ f.null) && decide (f.null ≤ v)
def nilS (f : Fld) (v : Int) (n : Int) : Bool := if 0 ≤ f.null then decide (f.null ≤ v) && decide (n < 0) else decide (n ≤ 0)
def rdList (f : Fld) (v : Int) (flex : Bool) (r : St → Tree × St) (st : St) : Tree × St :=
  (.mk 0 [] (nilS f v (rdALen flex st).1) (rdMany r (rdALen flex st).1.toNat (rdALen flex st).2).1 [],(rdMany r (rdALen flex st).1.toNat (rdALen flex st).2).2)
def rdF (pt : List Fld → St → Tree × St) (v : Int) (flex : Bool) (f : Fld) (st : St) : Tree × St :=
  if f.kind = 11 then rdList f v flex (rd1 pt f.of f.sub false flex) st else rd1 pt f.kind f.sub (mayS f v) flex st
def dfF (dp : List Fld → Tree) (f : Fld) : Tree :=
  if f.kind = 8 then .oct (decide (0 ≤ f.null)) []
  else if f.kind = 7 then .oct false (uuidS [])
  else if f.kind = 9 then .oct true []
  else if f.kind = 11 then .mk 0 [] true [] []
  else if f.kind = 10 then (dp f.sub).setNull (decide (0 ≤ f.null))
  else .num f.df
def dfP : Nat → List Fld → Tree
  | 0,_ => .zero
  | d + 1,fs => .mk 0 [] false (fs.map (dfF (dfP d))) []
def rdL (pt : List Fld → St → Tree × St) (dp : List Fld → Tree) (v : Int) (flex : Bool) : List Fld → St → List Tree × St
  | [],st => ([],st)
  | f :: fs,st =>
    if f.tag < 0 ∧ hasS f v = true then ((rdF pt v flex f st).1 :: (rdL pt dp v flex fs (rdF pt v flex f st).2).1,(rdL pt dp v flex fs (rdF pt v flex f st).2).2)
    else (dfF dp f :: (rdL pt dp v flex fs st).1,(rdL pt dp v flex fs st).2)
def rdP : Nat → Int → Bool → List Fld → St → Tree × St
  | 0,_,_,_,st => (.zero,st)
  | d + 1,v,flex,fs,st =>
    if flex = true then (.mk 0 [] false (rdL (rdP d v flex) (dfP d) v flex fs st).1 (rdTags (rdL (rdP d v flex) (dfP d) v flex fs st).2).1,(rdTags (rdL (rdP d v flex) (dfP d) v flex fs st).2).2)
    else (.mk 0 [] false (rdL (rdP d v flex) (dfP d) v flex fs st).1 [],(rdL (rdP d v flex) (dfP d) v flex fs st).2)

/-! ### What has run out stays so -/
theorem rdN_none (n : Nat) : rdN n none = ([],none) := rfl
theorem rdInt_none (k : IntKind) (n : Nat) : (rdInt k n none).2 = none := rfl
theorem rdUv_none : rdUv none = (0,none) := rfl
theorem rdSpan_none (l : Int) : rdSpan l none = ([],none) := rfl
theorem rdLen_none (flex : Bool) (k : IntKind) (n : Nat) : (rdLen flex k n none).2 = none := by unfold rdLen;split <;> rfl
theorem rdStr_none (flex : Bool) : (rdStr flex none).2 = none := by unfold rdStr;rw [rdLen_none];rfl
theorem rdOct_none (flex : Bool) : (rdOct flex none).2 = none := by unfold rdOct;rw [rdLen_none];rfl
theorem rdNStr_none (flex : Bool) : (rdNStr flex none).2 = none := by
  unfold rdNStr
  split
  · exact rdLen_none _ _ _
  · exact rdStr_none _
theorem rdBytes_none (flex : Bool) : (rdBytes flex none).2 = none := by
  unfold rdBytes
  split
  · exact rdLen_none _ _ _
  · exact rdOct_none _
theorem rdNBytes_none (flex : Bool) : (rdNBytes flex none).2 = none := by
  unfold rdNBytes
  split
  · exact rdLen_none _ _ _
  · exact rdOct_none _
theorem rdCnt_none (flex : Bool) : (rdCnt flex none).2 = none := by unfold rdCnt;split <;> rfl
theorem rdALen_none (flex : Bool) : (rdALen flex none).2 = none := by
  unfold rdALen
  split
  · rfl
  · exact rdCnt_none _
theorem rdMany_none {r : St → Tree × St} (h : (r none).2 = none) : ∀ n,(rdMany r n none).2 = none
  | 0 => rfl
  | n + 1 => by rw [rdMany,h];exact rdMany_none h n
theorem rdTag_none (u : List TagD) : (rdTag u none).2 = none := rfl
theorem rdTagsN_none : ∀ (n : Nat) (u : List TagD),(rdTagsN n u none).2 = none
  | 0,_ => rfl
  | n + 1,u => by rw [rdTagsN,rdTag_none];exact rdTagsN_none n _
theorem rdTags_none : (rdTags none).2 = none := rfl
theorem rd1_none {pt : List Fld → St → Tree × St} (h : ∀ sub,(pt sub none).2 = none) (kind : Int) (sub : List Fld) (may flex : Bool) : (rd1 pt kind sub may flex none).2 = none := by
  unfold rd1
  split
  · rfl
  · split
    · rfl
    · split
      · split
        · exact rdNStr_none _
        · exact rdStr_none _
      · split
        · split
          · exact rdNBytes_none _
          · exact rdBytes_none _
        · split
          · exact h _
          · rfl
theorem rdF_none {pt : List Fld → St → Tree × St} (h : ∀ sub,(pt sub none).2 = none) (v : Int) (flex : Bool) (f : Fld) : (rdF pt v flex f none).2 = none := by
  unfold rdF
  split
  · unfold rdList
    rw [rdALen_none]
    exact rdMany_none (rd1_none h _ _ _ _) _
  · exact rd1_none h _ _ _ _
theorem rdL_none {pt : List Fld → St → Tree × St} {dp : List Fld → Tree} (h : ∀ sub,(pt sub none).2 = none) (v : Int) (flex : Bool) : ∀ fs,(rdL pt dp v flex fs none).2 = none
  | [] => rfl
  | f :: fs => by
    rw [rdL]
    split
    · rw [rdF_none h];exact rdL_none h v flex fs
    · exact rdL_none h v flex fs
theorem rdP_none (v : Int) (flex : Bool) : ∀ d fs,(rdP d v flex fs none).2 = none
  | 0,_ => rfl
  | d + 1,fs => by
    rw [rdP]
    split
    · rw [rdL_none (rdP_none v flex d)];exact rdTags_none
    · exact rdL_none (rdP_none v flex d) v flex fs
end Ms

namespace Ms
open Go

theorem bytes_flat : ∀ s : List UInt8,(s.map fun b => [byteV b]).flatten = s.map byteV
  | [] => rfl
  | b :: s => by simp only [List.map_cons,List.flatten_cons,bytes_flat s];rfl
theorem BytesV.cells {ok : Blocks} {w : World} {v : Value} {s : List UInt8} (h : BytesV ok w v s) (hs : s ≠ []) : ∃ b o c x,v = .slice (some ⟨b,o,none⟩) s.length c ∧ s.length ≤ c ∧ ok b ∧ blk w b = some x ∧ ∀ i (hi : i < s.length),x.1[o + i]? = some (.int .u8 s[i].toNat) := by
  obtain ⟨base,c,rfl,hc,h1,h2⟩ := h
  rcases h2 with h2 | ⟨a,rfl,hsp,hok,x,hx,h3⟩
  · exact absurd (List.map_eq_nil_iff.1 h2) hs
  · obtain ⟨b,o,sp⟩ := a
    simp only at hsp;subst hsp
    refine ⟨b,o,c,x,by simp,by simpa using hc,hok,hx,fun i hi => ?_⟩
    have hl := flatten_len h1
    have := h3 i (by rw [hl];simpa using hi)
    have h4 := flatten_get h1 i (by simpa using hi) 0 (by omega)
    simp only [Nat.mul_one,Nat.add_zero] at h4
    rw [h4] at this
    simpa [byteV] using this
theorem BytesV.drop {ok : Blocks} {w : World} {a : Option Addr} {n c : Nat} {s : List UInt8} (h : BytesV ok w (.slice a n c) s) (k : Nat) (hk : k ≤ s.length) : BytesV ok w (.slice (slBase a k c 1) (s.length - k) (c - k)) (s.drop k) := by
  obtain ⟨base,c',h0,hc,h1,h2⟩ := h
  cases h0
  simp only [List.length_map] at hc
  refine ⟨slBase a k c 1,c - k,by simp,by rw [List.length_map,List.length_drop];omega,fun cs hm => ?_,?_⟩
  · obtain ⟨b,_,rfl⟩ := List.mem_map.1 hm;rfl
  · rcases Nat.lt_or_ge k s.length with hlt | hge
    · right
      rcases h2 with h2 | ⟨ad,rfl,hsp,hok,x,hx,h3⟩
      · rw [List.map_eq_nil_iff.1 h2] at hlt;simp at hlt
      · obtain ⟨b,o,sp⟩ := ad
        simp only at hsp;subst hsp
        refine ⟨⟨b,o + k,none⟩,?_,rfl,hok,x,hx,fun i hi => ?_⟩
        · unfold slBase
          rw [if_neg (show ¬ c = k by omega),Option.map_some,Nat.mul_one,add_plain]
        · rw [bytes_flat] at hi h3 ⊢
          have := h3 (k + i) (by rw [List.length_map,List.length_drop] at hi;rw [List.length_map];omega)
          simp only [Nat.add_assoc] at this ⊢
          rw [this]
          simp [List.getElem?_drop]
    · left
      rw [List.drop_of_length_le hge];rfl
theorem BytesV.span {ok : Blocks} {w : World} {a : Option Addr} {n c : Nat} {s : List UInt8} (h : BytesV ok w (.slice a n c) s) (k : Nat) (hk : k ≤ s.length) : BytesV ok w (.slice (slBase a 0 k 1) (k - 0) (k - 0)) (s.take k) := by
  have := h.take k hk
  obtain ⟨base,c',h0,hc,h1,h2⟩ := this
  simp only [Value.slice.injEq] at h0
  obtain ⟨rfl,h01,rfl⟩ := h0
  refine ⟨slBase a 0 k 1,k - 0,by rw [← h01,Nat.sub_zero],by rw [List.length_map,List.length_take];omega,h1,h2.imp id fun ⟨ad,e,hs⟩ => ?_⟩
  refine ⟨ad,?_,hs⟩
  rw [← e]
  unfold slBase
  cases a with
  | none => simp
  | some x =>
    obtain ⟨b,o,sp⟩ := x
    have hsp : sp = none := by
      have h9 := hs.1
      unfold slBase at e
      split at e
      · simp only [Option.some.injEq] at e;subst e;exact h9
      · simp only [Option.map_some,Option.some.injEq,Nat.zero_mul] at e
        subst e
        cases sp with
        | none => rfl
        | some q => simp [Addr.add] at h9
    subst hsp
    split <;> split <;> simp [add_plain]
theorem slBase_some {a : Option Addr} {l m s : Nat} (h : ∃ x,a = some x) : ∃ x,slBase a l m s = some x := by
  obtain ⟨x,rfl⟩ := h
  unfold slBase
  split
  · exact ⟨_,rfl⟩
  · exact ⟨_,rfl⟩
theorem BytesV.nil (ok : Blocks) (w : World) : BytesV ok w (.slice none 0 0) [] := ⟨none,0,rfl,Nat.le_refl _,by simp,.inl rfl⟩

structure Rdr (T : TypeId) (ok : Blocks) (w : World) (rb : Nat) (st : St) : Prop where
  ex : ∃ v,blk w rb = some (#[v,.bool st.isNone],T,(0,0)) ∧ BytesV ok w v (st.getD []) ∧ (st = none → v = .slice none 0 0)
theorem Rdr.upd {T : TypeId} {ok : Blocks} {w w' : World} {rb : Nat} {st : St} {S : Nat → Prop} (h : Rdr T ok w rb st) (u : Upd S w w') (h1 : ¬ S rb) (h2 : ∀ b,b < w.heap.size → ok b → ¬ S b) : Rdr T ok w' rb st := by
  obtain ⟨v,g1,g2,g3⟩ := h.ex
  exact ⟨v,u.blk_some g1 h1,g2.keep (u.keeps h2),g3⟩
theorem Rdr.lt {T : TypeId} {ok : Blocks} {w : World} {rb : Nat} {st : St} (h : Rdr T ok w rb st) : rb < w.heap.size := by
  obtain ⟨v,g1,_⟩ := h.ex;exact blk_lt g1
theorem Rdr.bad {T : TypeId} {ok : Blocks} {w' : World} {rb : Nat} (h : blk w' rb = some (#[.slice none 0 0,.bool true],T,(0,0))) : Rdr T ok w' rb none := ⟨_,h,BytesV.nil _ _,fun _ => rfl⟩
theorem Rdr.good {T : TypeId} {ok : Blocks} {w' : World} {rb : Nat} {v : Value} {s : List UInt8} (h : blk w' rb = some (#[v,.bool false],T,(0,0))) (hb : BytesV ok w' v s) : Rdr T ok w' rb (some s) := ⟨_,h,hb,fun h => by cases h⟩

theorem rdN_few {n : Nat} {st : St} (h : stLen st < n) : rdN n st = ([],none) := by
  unfold rdN
  cases st with
  | none => rfl
  | some s => simp only [stLen,Option.getD_some] at h;simp only;rw [if_neg (by omega)]
theorem rdN_some {n : Nat} {s : List UInt8} (h : n ≤ s.length) : rdN n (some s) = (s.take n,some (s.drop n)) := by
  unfold rdN;simp only;rw [if_pos h]
theorem st_some {n : Nat} {st : St} (h : ¬ stLen st < n + 1) : ∃ s,st = some s ∧ n + 1 ≤ s.length := by
  cases st with
  | none => exact absurd (by simp [stLen]) h
  | some s => exact ⟨s,rfl,by simp only [stLen,Option.getD_some] at h;omega⟩

/-! ### Octets put together -/
theorem or_shift {bits k x y : Nat} (hy : y < 2 ^ k) (h : x * 2 ^ k + y < 2 ^ bits) : (BitVec.ofInt bits ((y : Nat) : Int) ||| BitVec.ofInt bits ((x * 2 ^ k : Nat) : Int)).toNat = x * 2 ^ k + y := by
  rw [BitVec.toNat_or,BitVec.ofInt_natCast,BitVec.ofInt_natCast,BitVec.toNat_ofNat,BitVec.toNat_ofNat,Nat.mod_eq_of_lt (by omega),Nat.mod_eq_of_lt (by omega),Nat.or_comm]
  have := Nat.shiftLeft_add_eq_or_of_lt hy x
  rw [Nat.shiftLeft_eq] at this
  exact this.symm
theorem beN_nil : beN [] = 0 := rfl
theorem beN_1 (a : UInt8) : beN [a] = a.toNat := by simp [beN]
theorem beN_2 (a b : UInt8) : beN [a,b] = a.toNat * 256 + b.toNat := by simp [beN]
theorem beN_4 (a b c d : UInt8) : beN [a,b,c,d] = ((a.toNat * 256 + b.toNat) * 256 + c.toNat) * 256 + d.toNat := by simp [beN]
theorem beN_8 (a b c d e f g h : UInt8) : beN [a,b,c,d,e,f,g,h] = ((((((a.toNat * 256 + b.toNat) * 256 + c.toNat) * 256 + d.toNat) * 256 + e.toNat) * 256 + f.toNat) * 256 + g.toNat) * 256 + h.toNat := by simp [beN]
theorem u8_lt (a : UInt8) : a.toNat < 256 := a.toNat_lt
end Ms
namespace Ms
open Go
theorem jumpQ_goto (l : Nat) (J : Regs → World → Prop) (Q : Exit → Regs → World → Prop) (ρ : Regs) (w : World) : jumpQ l J Q (.goto l) ρ w = J ρ w := by simp [jumpQ]
theorem jumpQ_ret (l : Nat) (J : Regs → World → Prop) (Q : Exit → Regs → World → Prop) (ρ : Regs) (w : World) : jumpQ l J Q .ret ρ w = Q .ret ρ w := nr rfl
theorem jumpQ_normal (l : Nat) (J : Regs → World → Prop) (Q : Exit → Regs → World → Prop) (ρ : Regs) (w : World) : jumpQ l J Q .normal ρ w = Q .normal ρ w := nr rfl
theorem and127_u8 {m : Nat} (h : m < 256) : (BitVec.ofInt (kbits .u8) (m : Int) &&& BitVec.ofInt (kbits .u8) 127).toNat = m % 128 := by
  show (BitVec.ofInt 8 (m : Int) &&& BitVec.ofInt 8 127).toNat = m % 128
  rw [BitVec.toNat_and,BitVec.ofInt_natCast,BitVec.toNat_ofNat,Nat.mod_eq_of_lt h]
  exact Nat.and_two_pow_sub_one_eq_mod m 7
set_option maxRecDepth 100000 in
theorem and128F : ∀ y : Fin 256,(BitVec.ofInt 8 ((y.val : Nat) : Int) &&& BitVec.ofInt 8 128).toNat = if y.val < 128 then 0 else 128 := by decide
theorem and128_lo {m : Nat} (h : m < 128) : (BitVec.ofInt (kbits .u8) (m : Int) &&& BitVec.ofInt (kbits .u8) 128).toNat = 0 := (and128F ⟨m,by omega⟩).trans (if_pos h)
theorem and128_hi {m : Nat} (h : ¬ m < 128) (h2 : m < 256) : (BitVec.ofInt (kbits .u8) (m : Int) &&& BitVec.ofInt (kbits .u8) 128).toNat = 128 := (and128F ⟨m,h2⟩).trans (if_neg h)
end Ms
namespace Ms
open Go
theorem uvD_some {k : Nat} {s : List UInt8} {x : Nat × List UInt8} (h : uvD k s = some x) : x.2.length < s.length ∧ s.drop (s.length - x.2.length) = x.2 := by
  induction k generalizing s x with
  | zero =>
    cases s with
    | nil => simp [uvD] at h
    | cons b s =>
      simp only [uvD] at h
      split at h
      · cases h;simp
      · cases h
  | succ k ih =>
    cases s with
    | nil => simp [uvD] at h
    | cons b s =>
      simp only [uvD] at h
      split at h
      · cases h;simp
      · rw [Option.map_eq_some_iff] at h
        obtain ⟨y,hy,rfl⟩ := h
        obtain ⟨h1,h2⟩ := ih hy
        simp only [List.length_cons]
        refine ⟨by omega,?_⟩
        rw [show s.length + 1 - y.2.length = (s.length - y.2.length) + 1 by omega,List.drop_succ_cons]
        exact h2
theorem uvD_lt {s : List UInt8} {x : Nat × List UInt8} (h : uvD 4 s = some x) : x.1 < 4294967296 := by
  have : ∀ (k : Nat) (s : List UInt8) (x : Nat × List UInt8),uvD k s = some x → x.1 < 16 * 128 ^ k := by
    intro k
    induction k with
    | zero =>
      intro s x h
      cases s with
      | nil => simp [uvD] at h
      | cons b s =>
        simp only [uvD] at h
        split at h
        · cases h;simp only;omega
        · cases h
    | succ k ih =>
      intro s x h
      cases s with
      | nil => simp [uvD] at h
      | cons b s =>
        simp only [uvD] at h
        have hp := Nat.two_pow_pos (7 * k)
        have h128 : 128 ^ k = 2 ^ (7 * k) := by rw [Nat.pow_mul]
        split at h
        · cases h
          rw [Nat.pow_succ,h128];simp only;omega
        · rw [Option.map_eq_some_iff] at h
          obtain ⟨y,hy,rfl⟩ := h
          have := ih _ _ hy
          rw [Nat.pow_succ];simp only;omega
  have := this 4 s x h
  omega
def NN (w : World) (rb : Nat) (st : St) : Prop := st ≠ none → ∃ a n c x,blk w rb = some x ∧ x.1[0]? = some (.slice (some a) n c)
theorem NN.none (w : World) (rb : Nat) : NN w rb none := fun h => absurd rfl h
theorem NN.upd {w w' : World} {rb : Nat} {st : St} {S : Nat → Prop} (h : NN w rb st) (u : Upd S w w') (h1 : ¬ S rb) : NN w' rb st := fun h2 => by
  obtain ⟨a,n,c,x,g1,g2⟩ := h h2
  exact ⟨a,n,c,x,u.blk_some g1 h1,g2⟩
def RdQ (T : TypeId) (ok : Blocks) (rb : Nat) (w : World) (val : Value) (st : St) (r : Value) (w' : World) : Prop := r = val ∧ (Rdr T ok w' rb st ∧ NN w' rb st) ∧ Upd (fun b => b = rb) w w'
theorem RdQ.bad {T : TypeId} {ok : Blocks} {rb : Nat} {w : World} {v v1 val : Value} (hb : blk w rb = some (#[v,v1],T,(0,0))) : RdQ T ok rb w val none val (wr (wr w rb 1 [.bool true]) rb 0 [.slice none 0 0]) := by
  refine ⟨rfl,⟨Rdr.bad ?_,NN.none _ _⟩,Upd.wr (S := fun b => b = rb) (Upd.wr (S := fun b => b = rb) (Upd.refl _ _) _ _ (.inr rfl)) _ _ (.inr rfl)⟩
  rw [blk_wr_eq,blk_wr_eq,hb];rfl
theorem RdQ.good {T : TypeId} {ok : Blocks} {rb n c k : Nat} {a : Option Addr} {w w1 : World} {val : Value} {s : List UInt8} (hE : Ext w w1) (hb : blk w rb = some (#[.slice a n c,.bool false],T,(0,0))) (hB : BytesV ok w (.slice a n c) s) (hr : ¬ ok rb) (hk : k ≤ s.length) (h0 : 0 < k) :
    RdQ T ok rb w val (some (s.drop k)) val (wr w1 rb 0 [.slice (slBase a k c 1) (s.length - k) (c - k)]) := by
  have hu : Upd (fun b => b = rb) w (wr w1 rb 0 [.slice (slBase a k c 1) (s.length - k) (c - k)]) := (hE.mono fun _ h => h.elim).wr _ _ (.inr rfl)
  have hb2 : blk (wr w1 rb 0 [.slice (slBase a k c 1) (s.length - k) (c - k)]) rb = some (#[.slice (slBase a k c 1) (s.length - k) (c - k),.bool false],T,(0,0)) := by
    rw [blk_wr_eq,hE.blk_some hb id];rfl
  refine ⟨rfl,⟨Rdr.good (v := .slice (slBase a k c 1) (s.length - k) (c - k)) hb2 ((hB.drop k hk).keep (hu.keeps fun b _ hk e => hr (e ▸ hk))),fun _ => ?_⟩,hu⟩
  obtain ⟨B,o,c',x,hv,_⟩ := hB.cells (by intro h;rw [h] at hk;simp at hk;omega)
  cases hv
  obtain ⟨y,hy⟩ := slBase_some (a := some ⟨B,o,none⟩) (l := k) (m := c) (s := 1) ⟨_,rfl⟩
  exact ⟨y,_,_,_,hb2,by rw [hy];rfl⟩
theorem RdQ.then {T : TypeId} {ok : Blocks} {rb : Nat} {w w1 w2 : World} {val' r' : Value} {st' : St} (h : Upd (fun b => b = rb) w w1) (h' : RdQ T ok rb w1 val' st' r' w2) : RdQ T ok rb w val' st' r' w2 := ⟨h'.1,h'.2.1,h.trans h'.2.2⟩
theorem RdQ.ext {T : TypeId} {ok : Blocks} {rb : Nat} {w w1 w2 : World} {val' r' : Value} {st : St} (h : Upd (fun b => b = rb) w w1) (h1 : Rdr T ok w1 rb st ∧ NN w1 rb st) (e : Ext w1 w2) (hr : r' = val') : RdQ T ok rb w val' st r' w2 :=
  ⟨hr,⟨h1.1.upd e (fun h => h) (fun _ _ _ h => h),h1.2.upd e fun h => h⟩,h.trans (e.mono fun _ h => h.elim)⟩
def SpanQ (T : TypeId) (ok : Blocks) (rb : Nat) (w : World) (st st' : St) (l : Int) (s : List UInt8) (r : Value) (w' : World) : Prop :=
  BytesV ok w' r s ∧ (st' = none → r = .slice none 0 0) ∧ (NN w rb st ∨ 0 < l → st' ≠ none → ∃ a n c,r = .slice (some a) n c) ∧ Rdr T ok w' rb st' ∧ (NN w rb st ∨ 0 < l → NN w' rb st') ∧ Upd (fun b => b = rb) w w'
theorem SpanQ.bad {T : TypeId} {ok : Blocks} {rb : Nat} {w : World} {st : St} {l : Int} {v v1 : Value} (hb : blk w rb = some (#[v,v1],T,(0,0))) : SpanQ T ok rb w st none l [] (.slice none 0 0) (wr (wr w rb 1 [.bool true]) rb 0 [.slice none 0 0]) := by
  obtain ⟨_,⟨h1,h2⟩,h3⟩ := RdQ.bad (ok := ok) (val := .slice none 0 0) hb
  exact ⟨BytesV.nil _ _,fun _ => rfl,fun _ h => absurd rfl h,h1,fun _ => h2,h3⟩
theorem SpanQ.good {T : TypeId} {ok : Blocks} {rb n c k : Nat} {a : Option Addr} {w : World} {s : List UInt8} (hb : blk w rb = some (#[.slice a n c,.bool false],T,(0,0))) (hB : BytesV ok w (.slice a n c) s) (hr : ¬ ok rb) (hk : k ≤ s.length) :
    SpanQ T ok rb w (some s) (some (s.drop k)) k (s.take k) (.slice (slBase a 0 k 1) k k) (wr w rb 0 [.slice (slBase a k c 1) (s.length - k) (c - k)]) := by
  have hu : Upd (fun b => b = rb) w (wr w rb 0 [.slice (slBase a k c 1) (s.length - k) (c - k)]) := (Upd.refl _ _).wr _ _ (.inr rfl)
  have hb2 : blk (wr w rb 0 [.slice (slBase a k c 1) (s.length - k) (c - k)]) rb = some (#[.slice (slBase a k c 1) (s.length - k) (c - k),.bool false],T,(0,0)) := by
    rw [blk_wr_eq,hb];rfl
  have hs : NN w rb (some s) ∨ 0 < (k : Int) → ∃ y,a = some y := by
    rintro (h | h)
    · obtain ⟨y,_,_,x,g1,g2⟩ := h (by simp)
      rw [hb] at g1;cases g1
      simp at g2
      exact ⟨y,g2.1⟩
    · obtain ⟨B,o,c',x,hv,_⟩ := hB.cells (by intro h0;rw [h0] at hk;simp at hk;omega)
      cases hv;exact ⟨_,rfl⟩
  refine ⟨(hB.span k hk).keep (hu.keeps fun b _ hk e => hr (e ▸ hk)),(fun h => by cases h),(fun h _ => ?_),Rdr.good hb2 ((hB.drop k hk).keep (hu.keeps fun b _ hk e => hr (e ▸ hk))),(fun h _ => ?_),hu⟩
  · obtain ⟨y,hy⟩ := slBase_some (l := 0) (m := k) (s := 1) (hs h)
    exact ⟨y,_,_,by rw [hy]⟩
  · obtain ⟨y,hy⟩ := slBase_some (l := k) (m := c) (s := 1) (hs h)
    exact ⟨y,_,_,_,hb2,by rw [hy];rfl⟩
theorem SpanQ.zero {T : TypeId} {ok : Blocks} {rb : Nat} {w : World} (hb : blk w rb = some (#[.slice none 0 0,.bool true],T,(0,0))) :
    SpanQ T ok rb w none none 0 [] (.slice none 0 0) (wr w rb 0 [.slice none 0 0]) := by
  refine ⟨BytesV.nil _ _,fun _ => rfl,fun _ h => absurd rfl h,Rdr.bad ?_,fun _ => NN.none _ _,(Upd.refl _ _).wr _ _ (.inr rfl)⟩
  rw [blk_wr_eq,hb];rfl
theorem rdSpan_bad {l : Int} {st : St} (h : l < 0 ∨ (stLen st : Int) < l) : rdSpan l st = ([],none) := by
  unfold rdSpan
  cases st with
  | none => rfl
  | some s => simp only [stLen,Option.getD_some] at h;simp only;rw [if_neg (by omega)]
theorem rdSpan_good {k : Nat} {s : List UInt8} (h : k ≤ s.length) : rdSpan (k : Int) (some s) = (s.take k,some (s.drop k)) := by
  unfold rdSpan;simp only;rw [if_pos ⟨by omega,by omega⟩];rfl
theorem rdUv_lt (st : St) : (rdUv st).1 < 4294967296 := by
  unfold rdUv
  cases st with
  | none => simp
  | some s =>
    simp only
    split
    · rename_i x hx;exact uvD_lt hx
    · simp
theorem beN_lt : ∀ (s : List UInt8),beN s < 256 ^ s.length := by
  have : ∀ (s : List UInt8) (n : Nat) (k : Nat),n < 256 ^ k → s.foldl (fun a b => a * 256 + b.toNat) n < 256 ^ (k + s.length) := by
    intro s
    induction s with
    | nil => intro n k h;exact h
    | cons b s ih =>
      intro n k h
      have hb := u8_lt b
      have := ih (n * 256 + b.toNat) (k + 1) (by rw [Nat.pow_succ];omega)
      rw [List.foldl_cons,List.length_cons,show k + (s.length + 1) = k + 1 + s.length by omega]
      exact this
  intro s
  have h := this s 0 0 (by simp)
  rw [Nat.zero_add] at h
  exact h
theorem beN_take_lt (s : List UInt8) (n : Nat) : beN (s.take n) < 256 ^ n :=
  Nat.lt_of_lt_of_le (beN_lt _) (Nat.pow_le_pow_right (by omega) (by simp only [List.length_take];omega))
theorem cellsAt_none (x : Array Value) : cellsAt x 0 0 = some (.agg #[]) := by
  rw [cellsAt_ok (Nat.zero_le _)];simp
theorem isNone_some_st (s : List UInt8) : (some s : St).isNone = false := rfl
end Ms
namespace Ms
open Go
theorem rd16_64 (st : St) : IntKind.i64.wrap (rdInt .i16 2 st).1 = (rdInt .i16 2 st).1 := by
  unfold rdInt
  generalize beN (rdN 2 st).1 = n
  have : -32768 ≤ IntKind.i16.wrap (n : Int) ∧ IntKind.i16.wrap (n : Int) < 32768 := by
    unfold IntKind.wrap;simp [IntKind.bits,IntKind.signed];split <;> omega
  exact i64_wrap (by omega)
theorem rd32_64 (st : St) : IntKind.i64.wrap (rdInt .i32 4 st).1 = (rdInt .i32 4 st).1 := by
  unfold rdInt
  generalize beN (rdN 4 st).1 = n
  have : -2147483648 ≤ IntKind.i32.wrap (n : Int) ∧ IntKind.i32.wrap (n : Int) < 2147483648 := by
    unfold IntKind.wrap;simp [IntKind.bits,IntKind.signed];split <;> omega
  exact i64_wrap (by omega)
theorem rdUv_64 (st : St) : IntKind.i64.wrap ((rdUv st).1 : Int) = ((rdUv st).1 : Int) := i64_wrap (by have := rdUv_lt st;omega)
theorem rdUv_641 (st : St) : IntKind.i64.wrap (((rdUv st).1 : Int) - 1) = ((rdUv st).1 : Int) - 1 := i64_wrap (by have := rdUv_lt st;omega)
theorem i32w_64 (n : Int) : IntKind.i64.wrap (IntKind.i32.wrap n) = IntKind.i32.wrap n := by
  have : -2147483648 ≤ IntKind.i32.wrap n ∧ IntKind.i32.wrap n < 2147483648 := by
    unfold IntKind.wrap;simp [IntKind.bits,IntKind.signed];split <;> omega
  exact i64_wrap (by omega)
theorem rdStr_f (st : St) : rdStr false st = rdSpan (rdInt .i16 2 st).1 (rdInt .i16 2 st).2 := by simp [rdStr,rdLen]
theorem rdStr_t (st : St) : rdStr true st = rdSpan (((rdUv st).1 : Int) - 1) (rdUv st).2 := by simp [rdStr,rdLen]
theorem rdOct_f (st : St) : rdOct false st = rdSpan (rdInt .i32 4 st).1 (rdInt .i32 4 st).2 := by simp [rdOct,rdLen]
theorem rdOct_t (st : St) : rdOct true st = rdSpan (((rdUv st).1 : Int) - 1) (rdUv st).2 := by simp [rdOct,rdLen]
theorem rdLen_f (k : IntKind) (n : Nat) (st : St) : rdLen false k n st = rdInt k n st := by simp [rdLen]
theorem rdLen_t (k : IntKind) (n : Nat) (st : St) : rdLen true k n st = (((rdUv st).1 : Int) - 1,(rdUv st).2) := by simp [rdLen]
theorem rdCnt_f (st : St) : rdCnt false st = rdInt .i32 4 st := by simp [rdCnt]
theorem rdCnt_t (st : St) : rdCnt true st = (IntKind.i32.wrap (IntKind.i32.wrap (rdUv st).1 - 1),(rdUv st).2) := by simp [rdCnt]
def RdB (T : TypeId) (ok : Blocks) (rb : Nat) (w : World) (st : St) (w' : World) : Prop := (Rdr T ok w' rb st ∧ NN w' rb st) ∧ Upd (fun b => b = rb) w w'
def errV (ev : Value) (st : St) : Value := if st.isNone = true then ev else .nilIface
end Ms
namespace Ms
open Go
theorem uuidS_idem (s : List UInt8) : uuidS (uuidS s) = uuidS s := by
  have hu := uuidS_len s
  generalize uuidS s = x at *
  unfold uuidS
  rw [List.take_of_length_le (by omega),hu]
  simp
theorem Rdr.weaken {T : TypeId} {ok ok' : Blocks} {w : World} {rb : Nat} {st : St} (h : Rdr T ok w rb st) (k : ∀ b,b < w.heap.size → ok b → ok' b) : Rdr T ok' w rb st := by
  obtain ⟨v,g1,g2,g3⟩ := h.ex
  exact ⟨v,g1,g2.weaken k,g3⟩
end Ms

namespace Ms
open Go.World renaming size_alloc → qI
open Ms renaming size_wr → qJ,size_drew → qK,not_noB → qL
open W renaming seqR → qA,seq → qB,regR → qC,condK → qD,block → qE,skip → qF,ret → qG,exit → qH
open Nat renaming reduceEqDiff → n0,reduceAdd → n1,reduceMul → n2,reduceSub → n3,reduceLT → n4,reduceLeDiff → n5
open Int renaming reduceEq → i0,reduceLT → i1,reduceLE → i2,reduceNeg → i3,reduceAdd → i4,reduceSub → i5,reduceMul → i6,reduceToNat → i7
set_option maxRecDepth 4000
open Go Go.Proofs
attribute [local congr] W_congr WPsq_congr WPp_congr optK_congr addrK_congr intK_congr boolK_congr sliceK_congr tupleK_congr funcK_congr Fn_congr rawK_congr takeK_congr stepK_congr convK_congr aggK_congr

theorem BE16_fn {ok : Blocks} (v : Value) (s : List UInt8) (w : World) (h : BytesV ok w v s) (hl : 2 ≤ s.length) :
    Fn Tryd.prog 54 #[.agg #[],v] w fun r w' => r = .int .u16 (beN (s.take 2)) ∧ Ext w w' := by
  obtain ⟨x0,x1,rest,rfl⟩ : ∃ x0 x1 rest,s = x0 :: x1 :: rest := by
    match s,hl with
    | x0 :: x1 :: rest,_ => exact ⟨x0,x1,rest,rfl⟩
  obtain ⟨B,o,c,x,rfl,hc,hok,hx,hq⟩ := h.cells (by simp)
  have hbe : ((beN ((x0 :: x1 :: rest).take 2) : Nat) : Int) = (beN [x0,x1] : Nat) := rfl
  rw [hbe,beN_2]
  have q0 : x.1[o]? = some (.int .u8 x0.toNat) := hq 0 (by simp)
  have q1 : x.1[o + 1]? = some (.int .u8 x1.toNat) := hq 1 (by simp)
  clear hq hbe h
  have hp0 := u8_lt x0
  generalize x0.toNat = p0 at *
  have hp1 := u8_lt x1
  generalize x1.toNat = p1 at *
  have hlt := blk_lt hx
  have c0 : IntKind.u16.wrap ((p0 : Int)) = (p0 : Int) := by unfold IntKind.wrap;simp [IntKind.bits,IntKind.signed];omega
  have c1 : IntKind.u16.wrap ((p1 : Int)) = (p1 : Int) := by unfold IntKind.wrap;simp [IntKind.bits,IntKind.signed];omega
  have s0 : IntKind.u16.wrap ((p0 : Int) * 2 ^ (min 8 (kbits .u16))) = ((p0 * 2 ^ 8 : Nat) : Int) := by
    rw [show (2 : Int) ^ (min 8 (kbits .u16)) = 256 from rfl,show (2 : Nat) ^ 8 = 256 from rfl];unfold IntKind.wrap;simp [IntKind.bits,IntKind.signed];omega
  have hA0 : p1 < 256 := by omega
  have o0 : (BitVec.ofInt (kbits .u16) ((p1 : Nat) : Int) ||| BitVec.ofInt (kbits .u16) ((p0 * 2 ^ 8 : Nat) : Int)).toNat = p0 * 2 ^ 8 + p1 := or_shift (bits := 16) hA0 (by omega)
  obtain ⟨a0,ha0⟩ : ∃ a,a = p0 * 2 ^ 8 + p1 := ⟨_,rfl⟩
  rw [← ha0] at o0
  have w0 : IntKind.u16.wrap ((a0 : Nat) : Int) = ((a0 : Nat) : Int) := by unfold IntKind.wrap;simp [IntKind.bits,IntKind.signed];omega
  have hfin : (p0 * 256 + p1) = a0 := by omega
  rw [hfin]
  refine fn_of_W Tryd.func54 rfl Tryd.results54 Tryd.ntmps54 rfl ?_
  repeat ((first | refine qA rfl ?_|refine qB ?_|refine qC rfl ?_|refine qD ?_|refine qE ?_|refine qF ?_|refine qG ?_|refine qH ?_);try simp (maxSteps:=1000000)(disch:=(first|omega|(simp only [qI,qJ,qK]<;>omega)|exact qL _)) only [go_sem,↓reduceIte,n0,reduceCtorEq,n1,n2,n3,n4,n5,i0,i1,i2,i3,i4,i5,i6,i7,hx,q0,q1])
  refine W.drawR (.take 0 (.take 1 (.take 2 (.take 3 (.take 4 (.take 5 (.take 6 (.take 7 (.take 8 (.take 9 (.only 10 .done))))))))))) NoB mixed (by kernel_rfl) ?_
  simp (maxSteps:=1000000)(disch:=(first|omega|(simp only [qI,qJ,qK]<;>omega)|exact qL _)) only [go_sem,↓reduceIte,n0,reduceCtorEq,n1,n2,n3,n4,n5,i0,i1,i2,i3,i4,i5,i6,i7,hx,q0,q1,c0,c1,s0,o0,w0]
  refine ⟨Upd.refl _ _,?_⟩
  repeat ((first | refine qA rfl ?_|refine qB ?_|refine qC rfl ?_|refine qD ?_|refine qE ?_|refine qF ?_|refine qG ?_|refine qH ?_);try simp (maxSteps:=1000000)(disch:=(first|omega|(simp only [qI,qJ,qK]<;>omega)|exact qL _)) only [go_sem,↓reduceIte,n0,reduceCtorEq,n1,n2,n3,n4,n5,i0,i1,i2,i3,i4,i5,i6,i7])
  exact (Upd.alloc (Upd.refl _ _) _).drew

end Ms

namespace Ms
open Nat renaming reduceEqDiff → n0,reduceAdd → n1,reduceMul → n2,reduceSub → n3,reduceLT → n4,reduceLeDiff → n5
open Int renaming reduceEq → i0,reduceLT → i1,reduceLE → i2,reduceNeg → i3,reduceAdd → i4,reduceSub → i5,reduceMul → i6,reduceToNat → i7
set_option maxRecDepth 8000
open Go Go.Proofs
attribute [local congr] W_congr WPsq_congr WPp_congr optK_congr addrK_congr intK_congr boolK_congr sliceK_congr tupleK_congr funcK_congr Fn_congr rawK_congr takeK_congr stepK_congr convK_congr aggK_congr

end Ms

namespace Ms
open Go.World renaming size_alloc → qI
open Ms renaming size_wr → qJ,size_drew → qK,not_noB → qL
open W renaming seqR → qA,seq → qB,regR → qC,condK → qD,block → qE,skip → qF,ret → qG,exit → qH
open Nat renaming reduceEqDiff → n0,reduceAdd → n1,reduceMul → n2,reduceSub → n3,reduceLT → n4,reduceLeDiff → n5
open Int renaming reduceEq → i0,reduceLT → i1,reduceLE → i2,reduceNeg → i3,reduceAdd → i4,reduceSub → i5,reduceMul → i6,reduceToNat → i7
set_option maxRecDepth 8000
open Go Go.Proofs
attribute [local congr] W_congr WPsq_congr WPp_congr optK_congr addrK_congr intK_congr boolK_congr sliceK_congr tupleK_congr funcK_congr Fn_congr rawK_congr takeK_congr stepK_congr convK_congr aggK_congr

abbrev RT : TypeId := 88
def GloBE (w : World) : Prop := ∃ x,blk w 1 = some x
theorem GloBE.upd {w w' : World} {rb : Nat} (h : GloBE w) (u : Upd (fun b => b = rb) w w') (hr : ¬ 1 = rb) : GloBE w' := by
  obtain ⟨x,h⟩ := h;exact ⟨x,u.blk_some h hr⟩
theorem GloBE.ext {w w' : World} (h : GloBE w) (u : Ext w w') : GloBE w' := by
  obtain ⟨x,h⟩ := h;exact ⟨x,u.blk_some h id⟩

theorem Int16_fn {ok : Blocks} {rb : Nat} {st : St} (w : World) (h : Rdr RT ok w rb st) (hr : ¬ ok rb) (hg : GloBE w) (hrg : ¬ 1 = rb) :
    Fn Tryd.prog 48 #[.pointer (some ⟨rb,0,none⟩)] w (RdQ RT ok rb w (.int .i16 (rdInt .i16 2 st).1) (rdInt .i16 2 st).2) := by
  obtain ⟨v,hb,hB,hn⟩ := h.ex
  obtain ⟨a,c,rfl,hc⟩ := hB.shape
  have hbl := blk_lt hb
  by_cases hf : stLen st < 2
  · have hf2 : (st.getD []).length < 2 := hf
    rw [rdInt,rdN_few hf]
    refine fn_of_W Tryd.func48 rfl Tryd.results48 Tryd.ntmps48 rfl ?_
    repeat ((first | refine qA rfl ?_|refine qB ?_|refine qC rfl ?_|refine qD ?_|refine qE ?_|refine qF ?_|refine qG ?_|refine qH ?_);try simp (maxSteps:=1000000)(disch:=(first|omega|(simp only [qI,qJ,qK]<;>omega)|exact qL _)) only [go_sem,↓reduceIte,n0,reduceCtorEq,n1,n2,n3,n4,n5,i0,i1,i2,i3,i4,i5,i6,i7,hb])
    exact RdQ.bad hb
  · obtain ⟨s,rfl,hs⟩ := st_some hf
    simp only [Option.getD_some,isNone_some_st] at hb hB hc
    rw [rdInt,rdN_some hs]
    simp only [Option.getD_some]
    obtain ⟨xg,hg⟩ := hg
    have hgl := blk_lt hg
    have hz : xg.1.extract 0 0 = #[] := by simp
    refine fn_of_W Tryd.func48 rfl Tryd.results48 Tryd.ntmps48 rfl ?_
    repeat ((first | refine qA rfl ?_|refine qB ?_|refine qC rfl ?_|refine qD ?_|refine qE ?_|refine qF ?_|refine qG ?_|refine qH ?_);try simp (maxSteps:=1000000)(disch:=(first|omega|(simp only [qI,qJ,qK]<;>omega)|exact qL _)) only [go_sem,↓reduceIte,n0,reduceCtorEq,n1,n2,n3,n4,n5,i0,i1,i2,i3,i4,i5,i6,i7,hb,hg,hz])
    refine W.drawR (.take 0 (.take 1 (.take 2 (.take 3 (.take 4 (.only 5 (.take 6 (.only 7 .done)))))))) NoB mixed (by kernel_rfl) ?_
    simp (maxSteps:=1000000)(disch:=(first|omega|(simp only [qI,qJ,qK]<;>omega)|exact qL _)) only [go_sem,↓reduceIte,n0,reduceCtorEq,n1,n2,n3,n4,n5,i0,i1,i2,i3,i4,i5,i6,i7,hb,hg,hz]
    have hEd : Ext w w.drew := (Upd.refl _ _).drew
    refine (BE16_fn (ok := ok) _ s w.drew (hB.keep (hEd.keeps _)) hs).mono ?_
    rintro r5 w1 ⟨rfl,hE1⟩
    have hE := hEd.trans hE1
    have hb1 := hE.blk_some hb id
    refine ⟨hE1,?_⟩
    simp (maxSteps:=1000000)(disch:=(first|omega|(simp only [qI,qJ,qK]<;>omega)|exact qL _)) only [go_sem,↓reduceIte,n0,reduceCtorEq,n1,n2,n3,n4,n5,i0,i1,i2,i3,i4,i5,i6,i7,hb1]
    refine ⟨hE1,?_⟩
    repeat ((first | refine qA rfl ?_|refine qB ?_|refine qC rfl ?_|refine qD ?_|refine qE ?_|refine qF ?_|refine qG ?_|refine qH ?_);try simp (maxSteps:=1000000)(disch:=(first|omega|(simp only [qI,qJ,qK]<;>omega)|exact qL _)) only [go_sem,↓reduceIte,n0,reduceCtorEq,n1,n2,n3,n4,n5,i0,i1,i2,i3,i4,i5,i6,i7,hb1])
    exact RdQ.good hE hb hB hr hs (by omega)

theorem Span_fn {ok : Blocks} {rb : Nat} {st : St} (w : World) (h : Rdr RT ok w rb st) (hr : ¬ ok rb) (l : Int) :
    Fn Tryd.prog 50 #[.pointer (some ⟨rb,0,none⟩),.int .i64 l] w (SpanQ RT ok rb w st (rdSpan l st).2 l (rdSpan l st).1) := by
  obtain ⟨v,hb,hB,hn⟩ := h.ex
  obtain ⟨a,c,rfl,hc⟩ := hB.shape
  have hbl := blk_lt hb
  by_cases hf : l < 0 ∨ (stLen st : Int) < l
  · rw [rdSpan_bad hf]
    by_cases hl : (stLen st : Int) < l
    · have hl2 : ((st.getD []).length : Int) < l := hl
      refine fn_of_W Tryd.func50 rfl Tryd.results50 Tryd.ntmps50 rfl ?_
      repeat ((first | refine qA rfl ?_|refine qB ?_|refine qC rfl ?_|refine qD ?_|refine qE ?_|refine qF ?_|refine qG ?_|refine qH ?_);try simp (maxSteps:=1000000)(disch:=(first|omega|(simp only [qI,qJ,qK]<;>omega)|exact qL _)) only [go_sem,↓reduceIte,n0,reduceCtorEq,n1,n2,n3,n4,n5,i0,i1,i2,i3,i4,i5,i6,i7,hb])
      exact SpanQ.bad hb
    · have hl2 : ¬ ((st.getD []).length : Int) < l := hl
      have hl3 : l < 0 := hf.resolve_right hl
      refine fn_of_W Tryd.func50 rfl Tryd.results50 Tryd.ntmps50 rfl ?_
      repeat ((first | refine qA rfl ?_|refine qB ?_|refine qC rfl ?_|refine qD ?_|refine qE ?_|refine qF ?_|refine qG ?_|refine qH ?_);try simp (maxSteps:=1000000)(disch:=(first|omega|(simp only [qI,qJ,qK]<;>omega)|exact qL _)) only [go_sem,↓reduceIte,n0,reduceCtorEq,n1,n2,n3,n4,n5,i0,i1,i2,i3,i4,i5,i6,i7,hb])
      exact SpanQ.bad hb
  · have hl1 : 0 ≤ l := by omega
    have hl2 : l ≤ ((st.getD []).length : Int) := by have : (st.getD []).length = stLen st := rfl;omega
    obtain ⟨k,rfl⟩ : ∃ k : Nat,l = k := ⟨l.toNat,by omega⟩
    have hk : k ≤ (st.getD []).length := by omega
    have hl3 : ¬ ((st.getD []).length : Int) < (k : Int) := by omega
    have hl4 : ¬ (k : Int) < 0 := by omega
    have hk2 : k ≤ c := by omega
    cases st with
    | none =>
      have := hn rfl
      cases this
      have hk0 : k = 0 := by simpa using hk
      subst hk0
      refine fn_of_W Tryd.func50 rfl Tryd.results50 Tryd.ntmps50 rfl ?_
      repeat ((first | refine qA rfl ?_|refine qB ?_|refine qC rfl ?_|refine qD ?_|refine qE ?_|refine qF ?_|refine qG ?_|refine qH ?_);try simp (maxSteps:=1000000)(disch:=(first|omega|(simp only [qI,qJ,qK]<;>omega)|exact qL _)) only [go_sem,↓reduceIte,n0,reduceCtorEq,n1,n2,n3,n4,n5,i0,i1,i2,i3,i4,i5,i6,i7,hb,Int.toNat_natCast])
      exact SpanQ.zero hb
    | some s =>
      simp only [Option.getD_some,isNone_some_st] at hb hB hc hk hl2 hl3
      rw [rdSpan_good hk]
      refine fn_of_W Tryd.func50 rfl Tryd.results50 Tryd.ntmps50 rfl ?_
      repeat ((first | refine qA rfl ?_|refine qB ?_|refine qC rfl ?_|refine qD ?_|refine qE ?_|refine qF ?_|refine qG ?_|refine qH ?_);try simp (maxSteps:=1000000)(disch:=(first|omega|(simp only [qI,qJ,qK]<;>omega)|exact qL _)) only [go_sem,↓reduceIte,n0,reduceCtorEq,n1,n2,n3,n4,n5,i0,i1,i2,i3,i4,i5,i6,i7,hb,Int.toNat_natCast,Nat.sub_zero])
      exact SpanQ.good hb hB hr hk

end Ms

namespace Ms
open Go.World renaming size_alloc → qI
open Ms renaming size_wr → qJ,size_drew → qK,not_noB → qL
open W renaming seqR → qA,seq → qB,regR → qC,condK → qD,block → qE,skip → qF,ret → qG,exit → qH
open Nat renaming reduceEqDiff → n0,reduceAdd → n1,reduceMul → n2,reduceSub → n3,reduceLT → n4,reduceLeDiff → n5
open Int renaming reduceEq → i0,reduceLT → i1,reduceLE → i2,reduceNeg → i3,reduceAdd → i4,reduceSub → i5,reduceMul → i6,reduceToNat → i7
set_option maxRecDepth 8000
open Go Go.Proofs
attribute [local congr] W_congr WPsq_congr WPp_congr optK_congr addrK_congr intK_congr boolK_congr sliceK_congr tupleK_congr funcK_congr Fn_congr rawK_congr takeK_congr stepK_congr convK_congr aggK_congr

theorem UStr_fn {ok : Blocks} (v : Value) (s : List UInt8) (w : World) (h : BytesV ok w v s) : Fn Tryd.prog 49 #[v] w fun r w' => r = strV s ∧ w' = w := by
  obtain ⟨a,c,rfl,hc⟩ := h.shape
  refine fn_of_W Tryd.func49 rfl Tryd.results49 Tryd.ntmps49 rfl ?_
  repeat ((first | refine qA rfl ?_|refine qB ?_|refine qC rfl ?_|refine qD ?_|refine qE ?_|refine qF ?_|refine qG ?_|refine qH ?_);try simp (maxSteps:=1000000)(disch:=(first|omega|(simp only [qI,qJ,qK]<;>omega)|exact qL _)) only [go_sem,↓reduceIte,n0,reduceCtorEq,n1,n2,n3,n4,n5,i0,i1,i2,i3,i4,i5,i6,i7])
  refine wp_string (S := 24) (T := 9) (E := 5) (s := s) (ok := ok) (by kernel_rfl) (by kernel_rfl) (by kernel_rfl) (by (try simp (maxSteps:=1000000)(disch:=(first|omega|(simp only [qI,qJ,qK]<;>omega)|exact qL _)) only [go_sem,↓reduceIte,n0,reduceCtorEq,n1,n2,n3,n4,n5,i0,i1,i2,i3,i4,i5,i6,i7]);exact h) ?_
  simp (maxSteps:=1000000)(disch:=(first|omega|(simp only [qI,qJ,qK]<;>omega)|exact qL _)) only [go_sem,↓reduceIte,n0,reduceCtorEq,n1,n2,n3,n4,n5,i0,i1,i2,i3,i4,i5,i6,i7]
  repeat ((first | refine qA rfl ?_|refine qB ?_|refine qC rfl ?_|refine qD ?_|refine qE ?_|refine qF ?_|refine qG ?_|refine qH ?_);try simp (maxSteps:=1000000)(disch:=(first|omega|(simp only [qI,qJ,qK]<;>omega)|exact qL _)) only [go_sem,↓reduceIte,n0,reduceCtorEq,n1,n2,n3,n4,n5,i0,i1,i2,i3,i4,i5,i6,i7])

theorem RString_fn {ok : Blocks} {rb : Nat} {st : St} (w : World) (h : Rdr RT ok w rb st) (hr : ¬ ok rb) (hg : GloBE w) (hrg : ¬ 1 = rb) :
    Fn Tryd.prog 42 #[.pointer (some ⟨rb,0,none⟩)] w (RdQ RT ok rb w (strV (rdStr false st).1) (rdStr false st).2) := by
  rw [rdStr_f]
  refine fn_of_W Tryd.func42 rfl Tryd.results42 Tryd.ntmps42 rfl ?_
  repeat ((first | refine qA rfl ?_|refine qB ?_|refine qC rfl ?_|refine qD ?_|refine qE ?_|refine qF ?_|refine qG ?_|refine qH ?_);try simp (maxSteps:=1000000)(disch:=(first|omega|(simp only [qI,qJ,qK]<;>omega)|exact qL _)) only [go_sem,↓reduceIte,n0,reduceCtorEq,n1,n2,n3,n4,n5,i0,i1,i2,i3,i4,i5,i6,i7])
  refine (Int16_fn w h hr hg hrg).mono ?_
  rintro _ w1 ⟨rfl,h1,hu1⟩
  have ew := rd16_64 st
  repeat ((first | refine qA rfl ?_|refine qB ?_|refine qC rfl ?_|refine qD ?_|refine qE ?_|refine qF ?_|refine qG ?_|refine qH ?_);try simp (maxSteps:=1000000)(disch:=(first|omega|(simp only [qI,qJ,qK]<;>omega)|exact qL _)) only [go_sem,↓reduceIte,n0,reduceCtorEq,n1,n2,n3,n4,n5,i0,i1,i2,i3,i4,i5,i6,i7,ew])
  refine (Span_fn w1 h1.1 hr _).mono ?_
  rintro r2 w2 ⟨hB2,_,_,h2,hn2,hu2⟩
  obtain ⟨a2,c2,rfl,hc2⟩ := hB2.shape
  try simp (maxSteps:=1000000)(disch:=(first|omega|(simp only [qI,qJ,qK]<;>omega)|exact qL _)) only [go_sem,↓reduceIte,n0,reduceCtorEq,n1,n2,n3,n4,n5,i0,i1,i2,i3,i4,i5,i6,i7]
  refine wp_string (S := 24) (T := 9) (E := 5) (s := _) (ok := ok) (by kernel_rfl) (by kernel_rfl) (by kernel_rfl) (by (try simp (maxSteps:=1000000)(disch:=(first|omega|(simp only [qI,qJ,qK]<;>omega)|exact qL _)) only [go_sem,↓reduceIte,n0,reduceCtorEq,n1,n2,n3,n4,n5,i0,i1,i2,i3,i4,i5,i6,i7]);exact hB2) ?_
  simp (maxSteps:=1000000)(disch:=(first|omega|(simp only [qI,qJ,qK]<;>omega)|exact qL _)) only [go_sem,↓reduceIte,n0,reduceCtorEq,n1,n2,n3,n4,n5,i0,i1,i2,i3,i4,i5,i6,i7]
  repeat ((first | refine qA rfl ?_|refine qB ?_|refine qC rfl ?_|refine qD ?_|refine qE ?_|refine qF ?_|refine qG ?_|refine qH ?_);try simp (maxSteps:=1000000)(disch:=(first|omega|(simp only [qI,qJ,qK]<;>omega)|exact qL _)) only [go_sem,↓reduceIte,n0,reduceCtorEq,n1,n2,n3,n4,n5,i0,i1,i2,i3,i4,i5,i6,i7])
  exact ⟨rfl,⟨h2,hn2 (.inl h1.2)⟩,hu1.trans hu2⟩

theorem RUnsafeString_fn {ok : Blocks} {rb : Nat} {st : St} (w : World) (h : Rdr RT ok w rb st) (hr : ¬ ok rb) (hg : GloBE w) (hrg : ¬ 1 = rb) :
    Fn Tryd.prog 41 #[.pointer (some ⟨rb,0,none⟩)] w (RdQ RT ok rb w (strV (rdStr false st).1) (rdStr false st).2) := by
  rw [rdStr_f]
  refine fn_of_W Tryd.func41 rfl Tryd.results41 Tryd.ntmps41 rfl ?_
  repeat ((first | refine qA rfl ?_|refine qB ?_|refine qC rfl ?_|refine qD ?_|refine qE ?_|refine qF ?_|refine qG ?_|refine qH ?_);try simp (maxSteps:=1000000)(disch:=(first|omega|(simp only [qI,qJ,qK]<;>omega)|exact qL _)) only [go_sem,↓reduceIte,n0,reduceCtorEq,n1,n2,n3,n4,n5,i0,i1,i2,i3,i4,i5,i6,i7])
  refine (Int16_fn w h hr hg hrg).mono ?_
  rintro _ w1 ⟨rfl,h1,hu1⟩
  have ew := rd16_64 st
  repeat ((first | refine qA rfl ?_|refine qB ?_|refine qC rfl ?_|refine qD ?_|refine qE ?_|refine qF ?_|refine qG ?_|refine qH ?_);try simp (maxSteps:=1000000)(disch:=(first|omega|(simp only [qI,qJ,qK]<;>omega)|exact qL _)) only [go_sem,↓reduceIte,n0,reduceCtorEq,n1,n2,n3,n4,n5,i0,i1,i2,i3,i4,i5,i6,i7,ew])
  refine (Span_fn w1 h1.1 hr _).mono ?_
  rintro r2 w2 ⟨hB2,_,_,h2,hn2,hu2⟩
  obtain ⟨a2,c2,rfl,hc2⟩ := hB2.shape
  try simp (maxSteps:=1000000)(disch:=(first|omega|(simp only [qI,qJ,qK]<;>omega)|exact qL _)) only [go_sem,↓reduceIte,n0,reduceCtorEq,n1,n2,n3,n4,n5,i0,i1,i2,i3,i4,i5,i6,i7]
  refine (UStr_fn (ok := ok) _ _ w2 hB2).mono ?_
  rintro _ w3 ⟨rfl,rfl⟩
  repeat ((first | refine qA rfl ?_|refine qB ?_|refine qC rfl ?_|refine qD ?_|refine qE ?_|refine qF ?_|refine qG ?_|refine qH ?_);try simp (maxSteps:=1000000)(disch:=(first|omega|(simp only [qI,qJ,qK]<;>omega)|exact qL _)) only [go_sem,↓reduceIte,n0,reduceCtorEq,n1,n2,n3,n4,n5,i0,i1,i2,i3,i4,i5,i6,i7])
  exact ⟨rfl,⟨h2,hn2 (.inl h1.2)⟩,hu1.trans hu2⟩

def GloErr (w : World) (ev : Value) : Prop := ∃ x,blk w 0 = some x ∧ x.1[0]? = some ev
theorem RComplete_fn {ok : Blocks} {rb : Nat} {st : St} {ev : Value} (w : World) (h : Rdr RT ok w rb st) (hg : GloErr w ev) :
    Fn Tryd.prog 43 #[.pointer (some ⟨rb,0,none⟩)] w fun r w' => r = errV ev st ∧ w' = w := by
  obtain ⟨v,hb,hB,hn⟩ := h.ex
  obtain ⟨xg,hxg,hev⟩ := hg
  refine fn_of_W Tryd.func43 rfl Tryd.results43 Tryd.ntmps43 rfl ?_
  unfold errV
  cases st with
  | none =>
    have hb' : blk w rb = some (#[v,.bool true],RT,(0,0)) := hb
    repeat ((first | refine qA rfl ?_|refine qB ?_|refine qC rfl ?_|refine qD ?_|refine qE ?_|refine qF ?_|refine qG ?_|refine qH ?_);try simp (maxSteps:=1000000)(disch:=(first|omega|(simp only [qI,qJ,qK]<;>omega)|exact qL _)) only [go_sem,↓reduceIte,n0,reduceCtorEq,n1,n2,n3,n4,n5,i0,i1,i2,i3,i4,i5,i6,i7,hb',hxg,hev])
    all_goals rfl
  | some s =>
    have hb' : blk w rb = some (#[v,.bool false],RT,(0,0)) := hb
    repeat ((first | refine qA rfl ?_|refine qB ?_|refine qC rfl ?_|refine qD ?_|refine qE ?_|refine qF ?_|refine qG ?_|refine qH ?_);try simp (maxSteps:=1000000)(disch:=(first|omega|(simp only [qI,qJ,qK]<;>omega)|exact qL _)) only [go_sem,↓reduceIte,n0,reduceCtorEq,n1,n2,n3,n4,n5,i0,i1,i2,i3,i4,i5,i6,i7,hb',hxg,hev])
    all_goals rfl

end Ms

namespace Ms
open Go Go.ChangeMaps
section
variable {P : Program} {ρ : Regs} {w : World} {K : Regs → World → Prop} {d : Option Nat} {type : TypeId} {pos : String} {after : Array Edge} {guard : Option (Nat × Bool)}
theorem wp_mapPut {T k e : TypeId} {m x y : Operand} {r clock i : Nat} {es : Array MapEntry} {n : Int} {v : Value} (hT : P.underlying T = some (.map k e)) (hK : P.underlying k = some (.int .u32)) (hm : ev ρ m = .map (some r)) (hx : ev ρ x = .int .u32 n) (hy : ev ρ y = v)
    (hb : w.heap[r]? = some (.map es clock)) (h1 : KeysU es.toList) (hi : i < es.size) (h2 : es[i].key = .int .u32 n) (h3 : ∀ j (hj : j < es.size),j < i → es[j].key ≠ .int .u32 n)
    (hk : K (put ρ d undef) (Go.ChangeMaps.setBlock w r (.map (es.modify i fun e => { e with key := .int .u32 n,val := v }) clock))) :
    rawK P { dst := d,op := .mapUpdate T m x y,type := type,pos := pos,after := after,guard := guard } ρ w K := by
  refine wp_skip ?_ hk
  have g1 : (getObj r).run P w = .ok (.map es clock) w := MapKept.run_getObj_map hb
  have hf := findNow_hit (i := 0) (k := i) (es := es.toList) (n := n) (by simpa using hi) h1 (by simpa using h2) (fun j hj hji => by simpa using h3 j (by simpa using hj) hji)
  have g2 : (Instr.findKey k (.int .u32 n) es.toList).run P w = .ok (some (i,es[i].val)) w := by
    simp only [Instr.findKey,Sem.run_bind,run_underlying hK,Result.andThen_ok,hf,Sem.run_pure]
    simp
  have g3 : (Instr.checkKey false 10000 k (.int .u32 n)).run P w = .ok () w := checkKey_int hK false 9999 n w
  have g5 : (Instr.keyThatStays (((es[i]?).map (·.key)).getD (.int .u32 n)) (.int .u32 n)).run P w = .ok (.int .u32 n) w := by
    have : ((es[i]?).map (·.key)).getD (.int .u32 n) = .int .u32 n := by simp [hi,h2]
    rw [this]
    have hs : Instr.sameBits 10000 (.int .u32 n) (.int .u32 n) = true := by simp [Instr.sameBits]
    simp only [Instr.keyThatStays,hs,if_true,Sem.run_pure]
  have g4 : (setObj r (.map (es.modify i fun e => { e with key := .int .u32 n,val := v }) clock)).run P w = .ok () (Go.ChangeMaps.setBlock w r (.map (es.modify i fun e => { e with key := .int .u32 n,val := v }) clock)) := by
    simp [setObj,Sem.run,hb,Go.ChangeMaps.setBlock]
  simp only [execOp,hm,hx,hy,Instr.mapUpdate,Sem.run_bind,run_underlying hT,Result.andThen_ok,g1,g2,g3,g4,g5,Sem.run_pure]
end
theorem tagPut_new {u : List TagD} {y : TagD} (h : ∀ z ∈ u,z.1 ≠ y.1) : tagPut u y = u ++ [y] := by
  unfold tagPut
  rw [if_neg]
  simp only [List.any_eq_true,beq_iff_eq,not_exists,not_and]
  exact h
theorem tagPut_old {u : List TagD} {y : TagD} {i : Nat} (hi : i < u.length) (h : u[i].1 = y.1) (hn : (u.map (·.1)).Nodup) : tagPut u y = u.set i y := by
  unfold tagPut
  rw [if_pos (by simp only [List.any_eq_true,beq_iff_eq];exact ⟨_,List.getElem_mem hi,h⟩)]
  apply List.ext_getElem (by simp)
  intro j h1 h2
  simp only [List.length_map] at h1
  rw [List.getElem_map,List.getElem_set]
  by_cases hj : i = j
  · subst hj;rw [if_pos h,if_pos rfl]
  · rw [if_neg hj,if_neg]
    intro he
    have hn2 := List.pairwise_iff_getElem.1 (List.nodup_iff_pairwise_ne.1 hn)
    rcases Nat.lt_or_ge i j with h3 | h3
    · have := hn2 i j (by simpa using hi) (by simpa using h1) h3
      simp only [List.getElem_map] at this
      exact this (by rw [h,he])
    · have := hn2 j i (by simpa using h1) (by simpa using hi) (by omega)
      simp only [List.getElem_map] at this
      exact this (by rw [h,he])
theorem tagPut_keys (u : List TagD) (y : TagD) (hn : (u.map (·.1)).Nodup) : ((tagPut u y).map (·.1)).Nodup := by
  by_cases h : ∀ z ∈ u,z.1 ≠ y.1
  · rw [tagPut_new h,List.map_append,List.nodup_append]
    refine ⟨hn,by simp,fun a ha b hb => ?_⟩
    obtain ⟨z,hz,rfl⟩ := List.mem_map.1 ha
    simp only [List.map_cons,List.map_nil,List.mem_singleton] at hb
    rw [hb];exact h z hz
  · obtain ⟨z,hz,he⟩ : ∃ z,z ∈ u ∧ z.1 = y.1 := by
      apply Classical.byContradiction
      intro hc
      exact h fun z hz he => hc ⟨z,hz,he⟩
    obtain ⟨i,hi,rfl⟩ := List.getElem_of_mem hz
    rw [tagPut_old hi he hn]
    have : (u.set i y).map (·.1) = u.map (·.1) := by
      apply List.ext_getElem (by simp)
      intro j h1 h2
      simp only [List.length_map,List.length_set] at h1
      rw [List.getElem_map,List.getElem_map,List.getElem_set]
      split
      · rename_i e;subst e;exact he.symm
      · rfl
    rw [this];exact hn
theorem tagE_set {ok : Blocks} {w : World} {u : List TagD} {es : Array MapEntry} {clock i : Nat} (hsz : es.size = u.length) (h : ∀ i (h1 : i < u.length) (h2 : i < es.size),TagE ok w u[i] es[i] ∧ es[i].born < clock) (hi : i < u.length) {y : TagD} {v : Value} (hy : y.1 < 2 ^ 32) (hv : BytesV ok w v y.2) :
    (es.modify i fun e => { e with key := .int .u32 y.1,val := v }).size = (u.set i y).length ∧ (∀ j (h1 : j < (u.set i y).length) (h2 : j < (es.modify i fun e => { e with key := .int .u32 y.1,val := v }).size),TagE ok w (u.set i y)[j] (es.modify i fun e => { e with key := .int .u32 y.1,val := v })[j] ∧ (es.modify i fun e => { e with key := .int .u32 y.1,val := v })[j].born < clock) := by
  refine ⟨by simp [hsz],fun j h1 h2 => ?_⟩
  simp only [List.length_set] at h1
  rw [List.getElem_set,Array.getElem_modify]
  split
  · rename_i e;subst e
    exact ⟨⟨rfl,hy,hv⟩,(h i h1 (by omega)).2⟩
  · exact h j h1 (by omega)
theorem inj_set {es : Array MapEntry} {i : Nat} {f : MapEntry → MapEntry} (hf : ∀ e,(f e).born = e.born) (h : ∀ i j (h1 : i < es.size) (h2 : j < es.size),es[i].born = es[j].born → i = j) :
    ∀ a b (h1 : a < (es.modify i f).size) (h2 : b < (es.modify i f).size),(es.modify i f)[a].born = (es.modify i f)[b].born → a = b := by
  intro a b h1 h2 he
  simp only [Array.size_modify] at h1 h2
  have key : ∀ c (hc : c < es.size) (hc2 : c < (es.modify i f).size),((es.modify i f)[c]).born = es[c].born := by
    intro c hc hc2
    rw [Array.getElem_modify]
    split
    · rw [hf]
    · rfl
  rw [key a h1 _,key b h2 _] at he
  exact h a b h1 h2 he
end Ms

namespace Ms
open Go

def zs (z : List Value) (n : Nat) : List Value := (List.replicate n z).flatten
theorem zs_succ (z : List Value) (n : Nat) : zs z (n + 1) = z ++ zs z n := by simp [zs,List.replicate_succ]
theorem zs_len (z : List Value) (n : Nat) : (zs z n).length = n * z.length := by simp [zs]
theorem zs_get (z : List Value) : ∀ (n k : Nat),k < n * z.length → (zs z n)[k]? = z[k % z.length]?
  | 0,k,h => by simp at h
  | n + 1,k,h => by
    rw [zs_succ]
    have hz : 0 < z.length := by
      rcases Nat.eq_zero_or_pos z.length with h0 | h0
      · rw [h0] at h;simp at h
      · exact h0
    by_cases hk : k < z.length
    · rw [List.getElem?_append_left hk,Nat.mod_eq_of_lt hk]
    · rw [List.getElem?_append_right (by omega),zs_get z n (k - z.length) (by rw [Nat.succ_mul] at h;omega),← Nat.mod_eq_sub_mod (by omega)]
theorem zeroCells_zs (z : Array Value) (n : Nat) : (Builtin.zeroCells z n).toList = zs z.toList n := by
  apply List.ext_getElem?
  intro k
  by_cases hk : k < n * z.size
  · rw [zs_get _ _ _ (by simpa using hk)]
    have hz : 0 < z.size := by
      rcases Nat.eq_zero_or_pos z.size with h0 | h0
      · rw [h0] at hk;simp at hk
      · exact h0
    have hm := Nat.mod_lt k hz
    simp only [Builtin.zeroCells,Array.toList_map,List.getElem?_map,Array.length_toList]
    rw [Array.getElem?_toList,Array.getElem?_eq_getElem (by simpa using hk)]
    simp only [Array.getElem_range,Option.map_some]
    rw [getElem!_pos z (k % z.size) hm,Array.getElem?_toList,Array.getElem?_eq_getElem hm]
  · rw [List.getElem?_eq_none (by simp [Builtin.zeroCells];omega),List.getElem?_eq_none (by rw [zs_len];simpa using hk)]
section
variable {P : Program}
theorem wp_appendZ {T X E : TypeId} {size bytes : Nat} {zc : List Value} {kx : IntKind} (hT : P.underlying T = some (.slice E)) (hX : P.underlying X = some (.int kx)) (hi : (P.info? E).map (fun i => (i.size,i.bytes,i.zero.map (·.cells))) = some (size,bytes,some zc.toArray)) (hsz : 0 < size)
    {w : World} {ρ : Regs} {d : Option Nat} {x y : Operand} {type : TypeId} {pos : String} {after : Array Edge} {guard : Option (Nat × Bool)} {K : Regs → World → Prop} {a : Option Addr} {m : Nat}
    (hx : ev ρ x = .slice a 0 0) (hy : ev ρ y = .int kx m) (h0 : 0 < m) (hm : m < 2147483648) (hb : bytes ≤ 16384)
    (hk : ∀ q rest,m ≤ q → K (put ρ d (.slice (some ⟨w.heap.size,0,none⟩) m q)) (w.drew.alloc (.cells (zs zc m ++ rest).toArray E))) :
    rawK P { dst := d,op := .call { callee := .builtin .append,args := #[x,y],argTypes := #[T,X] },type := type,pos := pos,after := after,guard := guard } ρ w K := by
  refine ⟨?_⟩
  obtain ⟨ei,hi1,hi2⟩ := Option.map_eq_some_iff.1 hi
  simp only [Prod.mk.injEq] at hi2
  obtain ⟨hs,hby,hz⟩ := hi2
  obtain ⟨z,hz1,hz2⟩ := Option.map_eq_some_iff.1 hz
  have hw : IntKind.i64.wrap (m : Int) = m := i64_wrap (by omega)
  have hmb : (m : Int) * (ei.bytes : Int) ≤ 2 ^ 48 := by
    have : m * ei.bytes ≤ 2147483648 * 16384 := Nat.mul_le_mul (by omega) (by omega)
    have e : ((m * ei.bytes : Nat) : Int) = (m : Int) * (ei.bytes : Int) := Int.natCast_mul _ _
    rw [← e]
    have : ((m * ei.bytes : Nat) : Int) ≤ ((2147483648 * 16384 : Nat) : Int) := by exact_mod_cast this
    omega
  have hnx : Builtin.nextslicecap m 0 * ei.bytes ≤ 2 ^ 48 := by
    have h1 := nextslicecap_le (need := m) (old := 0) h0
    have : Builtin.nextslicecap m 0 * ei.bytes ≤ (2 * 2147483648 + 512) * 16384 := Nat.mul_le_mul (by omega) (by omega)
    omega
  have hne : ¬ (m * ei.size = 0) := by
    rw [hs]
    exact Nat.ne_of_gt (Nat.mul_pos h0 hsz)
  obtain ⟨q,hq1,hq2⟩ : ∃ q,m ≤ q ∧ (Builtin.append_ #[T,X] type #[.slice a 0 0,.int kx m]).run P w = .ok (.slice (some ⟨w.heap.size,0,none⟩) m q) (w.drew.alloc (.cells (zs zc m ++ zs zc (q - m)).toArray E)) := by
    have hfc : ∀ w : World,(Builtin.firstCells ei.size 0 (.slice a 0 0)).run P w = .ok #[] w := by
      intro w
      cases a with
      | none => rfl
      | some a => simp only [Builtin.firstCells,Nat.zero_mul,loadCells];rfl
    have hzz : ∀ n,Builtin.zeroCells z.cells n = (zs zc n).toArray := fun n => by
      apply Array.ext'
      rw [zeroCells_zs,hz2]
    refine ⟨(Question.appendCap (0 + m) 0 E).cut (w.tape w.drawn (Question.appendCap (0 + m) 0 E)),by simp only [Question.cut];omega,?_⟩
    generalize hq : (Question.appendCap (0 + m) 0 E).cut (w.tape w.drawn (Question.appendCap (0 + m) 0 E)) = q
    have hask : (askRoom (q * ei.bytes)).run P w.drew = .ok () w.drew := by
      unfold askRoom;split <;> rfl
    simp only [Builtin.append_,List.getElem?_toArray,List.getElem?_cons_zero,List.getElem?_cons_succ,Sem.run_bind,run_underlying hT,Result.andThen_ok,run_sizeOf hi1,run_underlying hX,Sem.run_pure,if_true,asInt,asIntOf,hw,run_typeInfo hi1]
    rw [if_neg (by omega)]
    simp only [Sem.run_bind,Sem.run_pure,Result.andThen_ok,run_typeInfo hi1]
    rw [if_neg (by omega)]
    simp only [Sem.run_bind,Sem.run_pure,Result.andThen_ok,Int.toNat_natCast]
    rw [if_neg (show ¬ 0 + m ≤ 0 by omega)]
    simp only [Sem.run_bind,run_typeInfo hi1,Result.andThen_ok]
    rw [if_neg (by simp [IntKind.max,IntKind.signed,IntKind.bits];omega)]
    simp only [Sem.run_bind,run_typeInfo hi1,Result.andThen_ok,Sem.run_pure]
    rw [if_neg (by rw [Nat.zero_add];omega)]
    simp only [Sem.run_bind,Sem.run_pure,Result.andThen_ok,choose]
    rw [run_drew rfl,hq]
    simp only [Sem.run_pure',Sem.run_bind,run_typeInfo hi1,Sem.run_pure,Result.andThen_ok,hask,hfc,Bool.not_true,Bool.false_eq_true,if_false,if_neg hne,run_zero hi1 hz1,newRow,newObj,Sem.run]
    rw [hzz,hzz,Nat.zero_add]
    simp
    rfl
  have : (execOp (ev ρ) { dst := d,op := .call { callee := .builtin .append,args := #[x,y],argTypes := #[T,X] },type := type,pos := pos,after := after,guard := guard }).run P w = .ok (.value (.slice (some ⟨w.heap.size,0,none⟩) m q)) (w.drew.alloc (.cells (zs zc m ++ zs zc (q - m)).toArray E)) := by
    simp only [execOp,resolve,Sem.run_bind,Sem.run_pure,Result.andThen_ok,invoke,builtin,List.map_toArray,List.map_cons,List.map_nil,hx,hy,hq2]
  rw [this]
  exact hk q _ hq1
end

theorem el_get {A cs B : List Value} {o : Nat} (ho : o < cs.length) : ((A ++ (cs ++ B)).toArray)[A.length + o]? = cs[o]? := by
  rw [List.getElem?_toArray,List.getElem?_append_right (by omega),Nat.add_sub_cancel_left,List.getElem?_append_left ho]
theorem el_set {A cs B : List Value} {o : Nat} {v : Value} (ho : o < cs.length) : ((A ++ (cs ++ B)).toArray).setIfInBounds (A.length + o) v = (A ++ (cs.set o v ++ B)).toArray := by
  rw [List.setIfInBounds_toArray,List.set_append_right _ _ (by omega),Nat.add_sub_cancel_left,List.set_append_left _ _ ho]
end Ms

