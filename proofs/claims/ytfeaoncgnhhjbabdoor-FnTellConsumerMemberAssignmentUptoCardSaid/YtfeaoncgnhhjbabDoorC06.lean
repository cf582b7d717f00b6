/- A part of the proof: see the last text. -/
import Derived.Shelf.GgSortFunc.Insertion
import Derived.Shelf.GgSortFunc.Whole
import Derived.Shelf.GgSortFunc.Tiny
import Derived.Test.YtfeaoncgnhhjbabDoorProg
import Derived.KernelRfl
import Derived.Test.YtfeaoncgnhhjbabDoorC00
import Derived.Test.YtfeaoncgnhhjbabDoorC01
import Derived.Test.YtfeaoncgnhhjbabDoorC02
import Derived.Test.YtfeaoncgnhhjbabDoorC03
import Derived.Test.YtfeaoncgnhhjbabDoorC05
set_option linter.unusedSimpArgs false
set_option linter.unusedVariables false
namespace Ms
open Go Go.ChangeMaps

section
variable {P : Program} {ρ : Regs} {w : World} {K : Regs → World → Prop} {d : Option Nat} {type : TypeId} {pos : String} {after : Array Edge} {guard : Option (Nat × Bool)}
end

def keyN (e : MapEntry) : Nat := match e.key with | .int _ n => n.toNat | _ => 0
structure Ranged (es : Array MapEntry) (seen : Array Nat) (xs : List Nat) (l rest : List MapEntry) : Prop where
  perm : (l ++ rest).Perm es.toList
  seen : seen.toList = l.map (·.born)
  keys : xs = l.map keyN
theorem Ranged.start (es : Array MapEntry) : Ranged es #[] [] [] es.toList := ⟨List.Perm.refl _,rfl,rfl⟩
theorem mem_leftOf {es : Array MapEntry} {seen : Array Nat} {e : MapEntry} (h : e ∈ (leftOf es seen).toList) : e ∈ es.toList ∧ e.born ∉ seen.toList := by
  simp only [leftOf,Array.toList_filter,List.mem_filter] at h
  refine ⟨h.1,?_⟩
  have := h.2
  simp at this
  simpa using this
theorem Ranged.step {es : Array MapEntry} {seen : Array Nat} {xs : List Nat} {l rest : List MapEntry} (h : Ranged es seen xs l rest) {e : MapEntry} (he : e ∈ (leftOf es seen).toList) :
    ∃ rest',Ranged es (seen.push e.born) (xs ++ [keyN e]) (l ++ [e]) rest' ∧ xs.length < es.size := by
  obtain ⟨h1,h2⟩ := mem_leftOf he
  rw [h.seen] at h2
  have hm : e ∈ rest := by
    rcases List.mem_append.1 (h.perm.mem_iff.2 h1) with h3 | h3
    · exact absurd (List.mem_map.2 ⟨e,h3,rfl⟩) h2
    · exact h3
  obtain ⟨a,b,rfl⟩ := List.append_of_mem hm
  refine ⟨a ++ b,⟨?_,by simp [h.seen],by simp [h.keys]⟩,?_⟩
  · refine List.Perm.trans ?_ h.perm
    rw [List.append_assoc]
    refine List.Perm.append_left l ?_
    show (e :: (a ++ b)).Perm _
    exact (List.perm_middle).symm
  · have := h.perm.length_eq
    have e1 : xs.length = l.length := by rw [h.keys,List.length_map]
    simp only [List.length_append,List.length_cons,Array.length_toList] at this
    omega
theorem Ranged.done {es : Array MapEntry} {seen : Array Nat} {xs : List Nat} {l rest : List MapEntry} (h : Ranged es seen xs l rest) (h0 : (leftOf es seen).size = 0) (hn : (es.toList.map (·.born)).Nodup) : xs.Perm (es.toList.map keyN) := by
  have hr : rest = [] := by
    cases rest with
    | nil => rfl
    | cons e rest =>
      exfalso
      have h1 : e ∈ es.toList := h.perm.mem_iff.1 (by simp)
      have h2 : e.born ∉ seen.toList := by
        rw [h.seen]
        have hn2 : ((l ++ e :: rest).map (·.born)).Nodup := (h.perm.map _).nodup_iff.2 hn
        rw [List.map_append,List.nodup_append] at hn2
        intro hm
        exact hn2.2.2 _ hm _ (by simp) rfl
      have h3 : e ∈ (leftOf es seen).toList := by
        simp only [leftOf,Array.toList_filter,List.mem_filter]
        refine ⟨h1,?_⟩
        simpa using h2
      have : (leftOf es seen).toList = [] := by
        apply List.eq_nil_of_length_eq_zero
        simpa using h0
      rw [this] at h3;simp at h3
  subst hr
  rw [h.keys]
  have := h.perm.map keyN
  simpa using this
theorem Ranged.len {es : Array MapEntry} {seen : Array Nat} {xs : List Nat} {l rest : List MapEntry} (h : Ranged es seen xs l rest) : xs.length ≤ es.size := by
  have := h.perm.length_eq
  have e1 : xs.length = l.length := by rw [h.keys,List.length_map]
  simp only [List.length_append,Array.length_toList] at this
  omega

/-! ### The sort -/
def ltNat (a b : Nat) : Bool := decide (a < b)
def u32V (n : Nat) : Value := .int .u32 n
/-! ### Worlds behind the sort -/
/-! ### A slice in a box,that grows -/
structure BoxA (E T : TypeId) (B db : Nat) (w : World) (v0 : Value) (s : List UInt8) (w' : World) (v : Value) : Prop where
  own : OwnBy E B w' v s
  box : blk w' db = some (#[v],T,(0,0))
  upd : Upd (fun b => b = db ∨ ownB v0 b) w w'
  frame : ∀ b,ownB v b → ownB v0 b ∨ w.heap.size ≤ b
  ne : ¬ ownB v db
theorem BoxA.step {E T : TypeId} {B db : Nat} {w w1 w2 : World} {v0 v1 v2 : Value} {s add : List UInt8} (h : BoxA E T B db w v0 s w1 v1) (hd : db < w.heap.size) (a : AppR E B w1 v1 s add v2 w2) :
    BoxA E T B db w v0 (s ++ add) (wr w2 db 0 [v2]) v2 ∧ blk w2 db = some (#[v1],T,(0,0)) := by
  have hz := h.upd.size
  have hz2 := a.upd.size
  have hb2 : blk w2 db = some (#[v1],T,(0,0)) := by rw [blk_of_heap (a.upd.keep db (by omega) h.ne)];exact h.box
  have hne : ¬ ownB v2 db := fun h1 => (a.frame db h1).elim h.ne (fun h => by omega)
  refine ⟨⟨?_,?_,?_,?_,hne⟩,hb2⟩
  · exact Own.upd a.own (Upd.wr (S := fun b => b = db) (Upd.refl _ _) _ _ (.inr rfl)) fun b hb e => hne (e ▸ hb)
  · rw [blk_wr_eq,hb2];rfl
  · exact (Upd.trans' h.upd a.upd fun b hb ho => (h.frame b ho).elim .inr (fun h => by omega)).wr _ _ (.inr (.inl rfl))
  · intro b hb
    rcases a.frame b hb with h1 | h1
    · exact h.frame b h1
    · exact .inr (by omega)

section
variable {ok : Blocks} {w : World} {u : List TagD} {es : Array MapEntry} {clock : Nat} (hsz : es.size = u.length) (he : ∀ i (h1 : i < u.length) (h2 : i < es.size),TagE ok w u[i] es[i] ∧ es[i].born < clock)
include hsz he
end
def lenBox (o : Option Blk) : Nat :=
  match o with
  | some x => (match (x.1[0]? : Option Value) with | some (Value.slice _ n _) => n | _ => 0)
  | none => 0
end Ms

namespace Ms
open Nat renaming reduceEqDiff → n0,reduceAdd → n1,reduceMul → n2,reduceSub → n3,reduceLT → n4,reduceLeDiff → n5
open Int renaming reduceEq → i0,reduceLT → i1,reduceLE → i2,reduceNeg → i3,reduceAdd → i4,reduceSub → i5,reduceMul → i6,reduceToNat → i7
set_option maxRecDepth 4000
open Go Go.Proofs
attribute [local congr] W_congr WPsq_congr WPp_congr optK_congr addrK_congr intK_congr boolK_congr sliceK_congr tupleK_congr funcK_congr Fn_congr rawK_congr takeK_congr stepK_congr convK_congr aggK_congr

end Ms

namespace Ms
open Go Go.ChangeMaps

section
variable {R : List Fld → Rel Tree} {S : List Fld → Nat} {f : Fld} {ok : Blocks} {w : World} {t : Tree} {c : List Value}
theorem RepF_text (h : f.kind = 8) (hn : f.null < 0) : RepF R S f ok w t c ↔ c = [strV t.s] := by
  unfold RepF Rep1
  rw [if_neg (by omega),if_neg (by omega),if_neg (by omega),if_neg (by omega),if_pos h]
theorem RepF_bytes (h : f.kind = 9) : RepF R S f ok w t c ↔ ∃ v,c = [v] ∧ OptBytes ok w v t.null t.s := by
  unfold RepF Rep1
  rw [if_neg (by omega),if_neg (by omega),if_neg (by omega),if_neg (by omega),if_neg (by omega),if_pos h]
end
section
variable {R : List Fld → Rel Tree} {k : Int} {sub : List Fld} {ok : Blocks} {w : World} {t : Tree} {c : List Value}
theorem Rep1_num (h : k = 0 ∨ k = 1 ∨ k = 2 ∨ k = 3 ∨ k = 4 ∨ k = 5 ∨ k = 6) : Rep1 R k sub ok w t c ↔ c = [numC k t.n] := by
  unfold Rep1
  rw [if_neg (by omega),if_neg (by omega),if_neg (by omega),if_neg (by omega)]
theorem Rep1_part : Rep1 R 10 sub ok w t c ↔ R sub ok w t c := by
  unfold Rep1
  rw [if_neg (by omega),if_neg (by omega),if_neg (by omega),if_pos rfl]
end
theorem RepF.keepS {tg : Bool} {d : Nat} {f : Fld} {ok : Blocks} {w w' : World} {t : Tree} {c : List Value} (h : RepF (RepS tg d) (szS tg d) f ok w t c) (k : Keeps ok w w') : RepF (RepS tg d) (szS tg d) f ok w' t c :=
  (RepF_lay f fun _ => RepS_lay tg d f.sub).keep h k
theorem PtrText.shape {ok : Blocks} {w : World} {v : Value} {null : Bool} {s : List UInt8} (h : PtrText ok w v null s) : ∃ a,v = .pointer a := by
  unfold PtrText at h
  split at h
  · exact ⟨_,h⟩
  · obtain ⟨b,o,x,h,_⟩ := h;exact ⟨_,h⟩
theorem OptBytes.shape {ok : Blocks} {w : World} {v : Value} {null : Bool} {s : List UInt8} (h : OptBytes ok w v null s) : ∃ a n c,v = .slice a n c := by
  unfold OptBytes at h
  split at h
  · exact ⟨_,_,_,h⟩
  · obtain ⟨a,n,c,h⟩ := h.2;exact ⟨_,_,_,h⟩
theorem OptBytes.some {ok : Blocks} {w : World} {v : Value} {s : List UInt8} (h : OptBytes ok w v false s) : BytesV ok w v s := by
  unfold OptBytes at h
  rw [if_neg (by decide)] at h
  exact h.1
/-! ### A map of tags that is filled -/
def TagsG (ok : Blocks) (L : Nat) (w : World) (m : Value) (u : List TagD) : Prop :=
  (m = .map none ∧ u = []) ∨ ∃ r es clock,m = .map (some r) ∧ L ≤ r ∧ w.heap[r]? = some (.map es clock) ∧ es.size = u.length ∧ (∀ i (h1 : i < u.length) (h2 : i < es.size),TagE (fun b => ok b ∧ b < L) w u[i] es[i] ∧ es[i].born < clock) ∧
    (∀ i j (h1 : i < es.size) (h2 : j < es.size),es[i].born = es[j].born → i = j)
theorem TagsG.start (ok : Blocks) (L : Nat) (w : World) : TagsG ok L w (.map none) [] := .inl ⟨rfl,rfl⟩
theorem TagsG.tags {ok ok' : Blocks} {L : Nat} {w : World} {m : Value} {u : List TagD} (h : TagsG ok L w m u) (h1 : ∀ b,b < L → ok b → ok' b) (h2 : ∀ b,L ≤ b → ok' b) : TagsM ok' w m u := by
  rcases h with h | ⟨r,es,clock,g1,g2,g3,g4,g5,g6⟩
  · exact .inl h
  · exact .inr ⟨r,es,clock,g1,h2 r g2,g3,g4,fun i a b => ⟨(g5 i a b).1.weaken fun b _ hk => h1 b hk.2 hk.1,(g5 i a b).2⟩,g6⟩
theorem TagsG.keep {ok : Blocks} {L : Nat} {w w' : World} {m : Value} {u : List TagD} (h : TagsG ok L w m u) (k : ∀ b,b < w.heap.size → (ok b ∧ b < L) ∨ L ≤ b → w'.heap[b]? = w.heap[b]?) : TagsG ok L w' m u := by
  rcases h with h | ⟨r,es,clock,g1,g2,g3,g4,g5,g6⟩
  · exact .inl h
  · exact .inr ⟨r,es,clock,g1,g2,by rw [k r (heap_lt g3) (.inr g2)];exact g3,g4,fun i a b => ⟨(g5 i a b).1.keep fun b hb hk => k b hb (.inl hk),(g5 i a b).2⟩,g6⟩
theorem TagsG.shape {ok : Blocks} {L : Nat} {w : World} {m : Value} {u : List TagD} (h : TagsG ok L w m u) : ∃ a,m = .map a := by
  rcases h with ⟨h,_⟩ | ⟨r,es,clock,h,_⟩ <;> exact ⟨_,h⟩
theorem TagsM.shape {ok : Blocks} {w : World} {m : Value} {u : List TagD} (h : TagsM ok w m u) : ∃ a,m = .map a := by
  rcases h with ⟨h,_⟩ | ⟨r,es,clock,h,_⟩ <;> exact ⟨_,h⟩
end Ms
namespace Ms
open Go
theorem RepS.intro {d : Nat} {fs : List Fld} {ok : Blocks} {w : World} {t : Tree} {cs c : List Value} {v : Value} (h : cs = c ++ [v]) (h1 : RepL (RepS true d) (szS true d) ok w t fs 0 c) (h2 : TagsM ok w v t.u) : RepS true (d + 1) fs ok w t cs :=
  ⟨c,[v],h,h1,by rw [if_pos rfl];exact ⟨v,rfl,h2⟩⟩
theorem RepL.nil {R : List Fld → Rel Tree} {S : List Fld → Nat} {ok : Blocks} {w : World} {t : Tree} {i : Nat} : RepL R S ok w t [] i [] := rfl
theorem RepL.cons {R : List Fld → Rel Tree} {S : List Fld → Nat} {ok : Blocks} {w : World} {t : Tree} {f : Fld} {fs : List Fld} {i : Nat} {c rest : List Value} (h : RepF R S f ok w (t.at i) c) (hr : RepL R S ok w t fs (i + 1) rest) : RepL R S ok w t (f :: fs) i (c ++ rest) :=
  ⟨c,rest,rfl,h,hr⟩
section
variable {P : List Fld → Tree → Prop} {V : Int} {f : Fld} {t : Tree} (h : FitF P V f t)
include h
theorem FitF.list (hk : f.kind = 11) : t.l.length ≤ 32767 ∧ ∀ x ∈ t.l,x.null = false ∧ Fit1 P f.of f.sub x := by
  have := h.2;rw [if_pos hk] at this;exact this
theorem FitF.one (hk : f.kind ≠ 11) : Fit1 P f.kind f.sub t := by
  have := h.2;rw [if_neg hk] at this;exact this
theorem FitF.text (hk : f.kind = 8 ∨ f.kind = 9) : t.s.length ≤ 32767 := (h.one (by omega)).1 hk
end
theorem Lists.len {t : Tree} (h : Lists t) : t.l.length ≤ 32767 := by cases h;assumption
theorem Lists.get {t : Tree} (h : Lists t) {i : Nat} (hi : i < t.l.length) : Lists t.l[i] := by
  cases h with
  | mk h1 h2 h3 => exact h3 i hi
theorem Lists.at {t : Tree} (h : Lists t) (i : Nat) : Lists (t.at i) := by
  by_cases hi : i < t.l.length
  · have e : t.at i = t.l[i] := by simp [Tree.at,hi]
    rw [e];exact h.get hi
  · have e : t.at i = .zero := by simp [Tree.at,hi]
    rw [e];exact .mk (by simp) (by simp) (fun i h => by simp at h)

theorem GrowR.made {α : Type} {R : Rel α} {size : Nat} {ok : Blocks} {B tb : Nat} {w : World} {E : TypeId} {g cap : Nat} {c : Array Value} (h : blk w g = some (c,E,(0,0))) (hc : c.size = cap * size) (hB : B ≤ g) : GrowR R size ok B tb w E (.slice (some ⟨g,0,none⟩) 0 cap) [] :=
  ⟨[],⟨⟨by simp,.inr ⟨g,cap,c.toList,(0,0),by simp,hB,by simpa using h,by simpa using hc,thaw_00 _ _,Nat.zero_le _⟩⟩,by simp [Css]⟩,rfl,fun i h => by simp at h⟩
theorem GrowR.some {α : Type} {R : Rel α} {size : Nat} {ok : Blocks} {B tb : Nat} {w : World} {E : TypeId} {v : Value} {xs : List α} (h : GrowR R size ok B tb w E v xs) (hv : v ≠ .slice none 0 0) : ∃ a n k,v = .slice (some a) n k := by
  obtain ⟨css,h1,_⟩ := h.ex
  rcases h1.1.2 with ⟨h2,_⟩ | ⟨g,cap,rest,fr,h2,_⟩
  · exact absurd h2 hv
  · exact ⟨_,_,_,h2⟩
end Ms
namespace Ms
abbrev OkS (ok : Blocks) (n : Nat) : Blocks := fun b => ok b ∧ b < n
abbrev OkF (ok : Blocks) (n h : Nat) : Blocks := fun b => OkS ok n b ∨ h ≤ b
end Ms
namespace Ms
open Go
theorem TagsG.lt {ok : Blocks} {L : Nat} {w : World} {q : Option Nat} {u : List TagD} (h : TagsG ok L w (.map q) u) {b : Nat} (hq : q = some b) : b < w.heap.size ∧ L ≤ b := by
  subst hq
  rcases h with ⟨h,_⟩ | ⟨r,es,clock,h,g2,g3,_⟩
  · cases h
  · cases h;exact ⟨heap_lt g3,g2⟩

section
variable {R : List Fld → Rel Tree} {S : List Fld → Nat} {ok : Blocks} {w : World} {t : Tree} {f : Fld} {fs : List Fld} {i : Nat} {rest : List Value}
theorem RepL.cons1 {v : Value} (h : RepF R S f ok w (t.at i) [v]) (hr : RepL R S ok w t fs (i + 1) rest) : RepL R S ok w t (f :: fs) i (v :: rest) := ⟨[v],rest,rfl,h,hr⟩
end

theorem cellsAt_full {x : Array Value} {n : Nat} (h : x.size = n) : cellsAt x 0 n = some (.agg x) := by
  subst h
  rw [cellsAt_ok (by omega),Nat.zero_add,Array.extract_size]
end Ms

namespace Ms
open Nat renaming reduceEqDiff → n0,reduceAdd → n1,reduceMul → n2,reduceSub → n3,reduceLT → n4,reduceLeDiff → n5
open Int renaming reduceEq → i0,reduceLT → i1,reduceLE → i2,reduceNeg → i3,reduceAdd → i4,reduceSub → i5,reduceMul → i6,reduceToNat → i7
set_option maxRecDepth 4000
open Go Go.Proofs Go.Shelf
attribute [local congr] W_congr WPsq_congr WPp_congr optK_congr addrK_congr intK_congr boolK_congr sliceK_congr tupleK_congr funcK_congr Fn_congr rawK_congr takeK_congr stepK_congr convK_congr aggK_congr


end Ms

namespace Ms
open Nat renaming reduceEqDiff → n0,reduceAdd → n1,reduceMul → n2,reduceSub → n3,reduceLT → n4,reduceLeDiff → n5
open Int renaming reduceEq → i0,reduceLT → i1,reduceLE → i2,reduceNeg → i3,reduceAdd → i4,reduceSub → i5,reduceMul → i6,reduceToNat → i7
set_option maxRecDepth 4000
open Go Go.Proofs Go.Shelf

end Ms

namespace Ms
open Nat renaming reduceEqDiff → n0,reduceAdd → n1,reduceMul → n2,reduceSub → n3,reduceLT → n4,reduceLeDiff → n5
open Int renaming reduceEq → i0,reduceLT → i1,reduceLE → i2,reduceNeg → i3,reduceAdd → i4,reduceSub → i5,reduceMul → i6,reduceToNat → i7
set_option maxRecDepth 4000
open Go Go.Proofs Go.Shelf
attribute [local congr] W_congr WPsq_congr WPp_congr optK_congr addrK_congr intK_congr boolK_congr sliceK_congr tupleK_congr funcK_congr Fn_congr rawK_congr takeK_congr stepK_congr convK_congr aggK_congr



end Ms

namespace Ms
open Go
theorem All2.nil {α β : Type} {R : α → β → Prop} : All2 R [] [] := ⟨rfl,fun i h => by simp at h⟩
theorem All2.cons {α β : Type} {R : α → β → Prop} {x : α} {y : β} {xs : List α} {ys : List β} (h : R x y) (t : All2 R xs ys) : All2 R (x :: xs) (y :: ys) := by
  refine ⟨by simp [t.1],fun i h1 h2 => ?_⟩
  cases i with
  | zero => exact h
  | succ i => exact t.2 i (by simpa using h1) (by simpa using h2)
theorem FldsV.litO {ok : Blocks} {w : World} {b : Nat} {fr : Nat × Nat} {T : TypeId} {fs : List Fld} {css : List (List Value)} (hok : ok b) (h : blk w b = some (css.flatten.toArray,T,fr)) (hl : ∀ cs ∈ css,cs.length = 8) (ha : All2 (FldC ok w) fs css) :
    FldsV ok w (.slice (some ⟨b,0,none⟩) fs.length fs.length) fs := by
  refine ⟨css,⟨some ⟨b,0,none⟩,fs.length,by rw [ha.1],by rw [ha.1];exact Nat.le_refl _,hl,.inr ⟨_,rfl,rfl,hok,_,h,fun i hi => ?_⟩⟩,ha⟩
  simp only [Nat.zero_add,List.getElem?_toArray]
theorem FldsV.none (ok : Blocks) (w : World) : FldsV ok w (.slice none 0 0) [] := ⟨[],⟨_,0,rfl,Nat.le_refl _,by simp,.inl rfl⟩,rfl,fun i h => by simp at h⟩
theorem FldsV.stay {ok' : Blocks} {B n : Nat} {w w' : World} {v : Value} {l : List Fld} (h : FldsV (fun b => n ≤ b) w v l) (u : Upd (fun b => b = B) w w') (hn : B < n) (hB : ∀ b,n ≤ b → ok' b) : FldsV ok' w' v l :=
  (h.keep (u.keeps fun b _ hk e => by omega)).weaken fun b _ hk => hB b hk
abbrev P8 : List (Nat × Nat) := [(0,1),(1,1),(2,1),(3,1),(4,1),(5,1),(6,1),(7,1)]
theorem P8_get : ∀ i,i < 8 → P8[i]? = some (i,1) := by decide
def fillN : List Value → List (Nat × Value) → Option (Array Value)
  | ds,[] => some ds.toArray
  | ds,(i,v) :: ps => if flat v = true ∧ i < 8 then fillN (ds.set i v) ps else fillL P8 ds.toArray ((i,v) :: ps)
theorem fillN_eq : ∀ (ps : List (Nat × Value)) (ds : List Value),ds.length = 8 → fillL P8 ds.toArray ps = fillN ds ps
  | [],_,_ => rfl
  | (i,v) :: ps,ds,h => by
    rw [fillN]
    split
    · rename_i hc
      have hv : v.cells = #[v] := by
        have := hc.1
        cases v <;> first | rfl | (simp [flat] at this)
      rw [← fillN_eq ps (ds.set i v) (by simpa using h)]
      rw [fillL,P8_get i hc.2]
      simp only [hv,List.size_toArray,List.length_cons,List.length_nil,Nat.zero_add,h,true_and]
      rw [if_pos (by omega)]
      simp [wrArr]
    · rfl
theorem fill_fld (d0 d1 d2 d3 d4 d5 d6 d7 : Value) (ps : List (Nat × Value)) : fillL [(0,1),(1,1),(2,1),(3,1),(4,1),(5,1),(6,1),(7,1)] #[d0,d1,d2,d3,d4,d5,d6,d7] ps = fillN [d0,d1,d2,d3,d4,d5,d6,d7] ps := fillN_eq ps _ rfl
theorem fillN_nil (ds : List Value) : fillN ds [] = some ds.toArray := nr rfl
theorem fillN_int (ds : List Value) (i : Nat) (k : IntKind) (n : Int) (ps : List (Nat × Value)) : fillN ds ((i,.int k n) :: ps) = if i < 8 then fillN (ds.set i (.int k n)) ps else fillL P8 ds.toArray ((i,.int k n) :: ps) := by
  rw [fillN];simp [flat]
theorem fillN_slice (ds : List Value) (i : Nat) (a : Option Addr) (n c : Nat) (ps : List (Nat × Value)) : fillN ds ((i,.slice a n c) :: ps) = if i < 8 then fillN (ds.set i (.slice a n c)) ps else fillL P8 ds.toArray ((i,.slice a n c) :: ps) := by
  rw [fillN];simp [flat]
end Ms

namespace Ms
open Nat renaming reduceEqDiff → n0,reduceAdd → n1,reduceMul → n2,reduceSub → n3,reduceLT → n4,reduceLeDiff → n5
open Int renaming reduceEq → i0,reduceLT → i1,reduceLE → i2,reduceNeg → i3,reduceAdd → i4,reduceSub → i5,reduceMul → i6,reduceToNat → i7
set_option maxRecDepth 4000
end Ms

namespace Ms
open Go

theorem RepS.inv {d : Nat} {fs : List Fld} {ok : Blocks} {w : World} {t : Tree} {cs : List Value} (h : RepS true (d + 1) fs ok w t cs) :
    ∃ c v,cs = c ++ [v] ∧ RepL (RepS true d) (szS true d) ok w t fs 0 c ∧ TagsM ok w v t.u := by
  obtain ⟨c,m,h1,h2,h3⟩ := h
  rw [if_pos rfl] at h3
  obtain ⟨v,rfl,h4⟩ := h3
  exact ⟨c,v,h1,h2,h4⟩
theorem Fit1.text {P : List Fld → Tree → Prop} {k : Int} {sub : List Fld} {t : Tree} (h : Fit1 P k sub t) (hk : k = 8 ∨ k = 9) : t.s.length ≤ 32767 := h.1 hk

def FitWF (P : List Fld → Tree → Prop) (v : Int) (f : Fld) (t : Tree) : Prop :=
  (t.null = nullS f v t ∨ (f.null < 0 ∧ (f.kind = 9 ∨ f.kind = 11) ∧ t.null = true ∧ t.s = [] ∧ t.l = [])) ∧ (if f.kind = 11 then t.l.length ≤ 32767 ∧ ∀ x ∈ t.l,Fit1 P f.of f.sub x else Fit1 P f.kind f.sub t)
def FitWL (P : List Fld → Tree → Prop) (v : Int) (t : Tree) : List Fld → Nat → Prop
  | [],_ => True
  | f :: fs,i => (hasS f v = true → FitWF P v f (t.at i)) ∧ FitWL P v t fs (i + 1)
def FitW (v : Int) : Nat → List Fld → Tree → Prop
  | 0,fs,_ => fs = []
  | d + 1,fs,t => FitWL (FitW v d) v t fs 0 ∧ FitU fs t.u
theorem nullS_neg {f : Fld} {v : Int} {t : Tree} (h : f.null < 0) : nullS f v t = false := by
  unfold nullS
  have : decide (f.null ≥ 0) = false := by simp;omega
  rw [this];simp
section
variable {P : List Fld → Tree → Prop} {V : Int} {f : Fld} {t : Tree} (h : FitWF P V f t)
include h
theorem FitWF.list (hk : f.kind = 11) : t.l.length ≤ 32767 ∧ ∀ x ∈ t.l,Fit1 P f.of f.sub x := by
  have := h.2;rw [if_pos hk] at this;exact this
theorem FitWF.one (hk : f.kind ≠ 11) : Fit1 P f.kind f.sub t := by
  have := h.2;rw [if_neg hk] at this;exact this
theorem FitWF.text (hk : f.kind = 8 ∨ f.kind = 9) : t.s.length ≤ 32767 := (h.one (by omega)).1 hk
theorem FitWF.empty (hn : f.null < 0) (ht : t.null = true) : t.s = [] ∧ t.l = [] := by
  rcases h.1 with h1 | h1
  · rw [nullS_neg hn,ht] at h1;cases h1
  · exact h1.2.2.2
end
def plainL (pt : List Fld → Int → Bool → Tree → List UInt8) (v : Int) (flex : Bool) (t : Tree) : List Fld → Nat → List UInt8
  | [],_ => []
  | f :: fs,i => (if f.tag < 0 ∧ hasS f v = true then fieldS pt f v flex (t.at i) else []) ++ plainL pt v flex t fs (i + 1)
theorem plainL_eq (pt : List Fld → Int → Bool → Tree → List UInt8) (v : Int) (flex : Bool) (t : Tree) : ∀ (fs : List Fld) (i : Nat),(fs.zipIdx i).flatMap (fun (f,i) => if f.tag < 0 ∧ hasS f v = true then fieldS pt f v flex (t.at i) else []) = plainL pt v flex t fs i
  | [],_ => rfl
  | f :: fs,i => by
    rw [List.zipIdx_cons,List.flatMap_cons,plainL_eq pt v flex t fs (i + 1)];rfl
theorem plainS_L (pt : List Fld → Int → Bool → Tree → List UInt8) (fs : List Fld) (v : Int) (flex : Bool) (t : Tree) : plainS pt fs v flex t = plainL pt v flex t fs 0 := plainL_eq pt v flex t fs 0
theorem hasS_t {f : Fld} {v : Int} (h1 : f.fr ≤ v) (h2 : f.to < 0 ∨ v ≤ f.to) : hasS f v = true := by
  unfold hasS;simp only [Bool.and_eq_true,Bool.or_eq_true,decide_eq_true_eq];exact ⟨h1,h2⟩
section
variable {P : List Fld → Tree → Prop} {pt : List Fld → Int → Bool → Tree → List UInt8} {v : Int} {f : Fld} {t : Tree}
theorem counted_some {flex : Bool} (n k : Nat) : countedS flex false n k = if flex = true then uvarS (n + 1) else fixedS n k := by
  unfold countedS
  cases flex <;> simp
theorem counted_none {flex : Bool} (n k : Nat) : countedS flex true n k = if flex = true then [0] else fixedS (-1) k := by
  unfold countedS
  cases flex <;> simp
section
variable (h : FitWF P v f t)
include h
end
end



abbrev St := Option (List UInt8)
def stLen (st : St) : Nat := (st.getD []).length
def rdN (n : Nat) (st : St) : List UInt8 × St :=
  match st with
  | some s => if n ≤ s.length then (s.take n,some (s.drop n)) else ([],none)
  | none => ([],none)
def beN (s : List UInt8) : Nat := s.foldl (fun a b => a * 256 + b.toNat) 0
def rdInt (k : IntKind) (n : Nat) (st : St) : Int × St := (k.wrap (beN (rdN n st).1),(rdN n st).2)
def uvD : Nat → List UInt8 → Option (Nat × List UInt8)
  | _,[] => none
  | 0,b :: s => if b.toNat ≤ 15 then some (b.toNat,s) else none
  | k + 1,b :: s => if b.toNat < 128 then some (b.toNat,s) else (uvD k s).map fun x => (b.toNat % 128 + 128 * x.1,x.2)
def rdUv (st : St) : Nat × St :=
  match st with
  | some s => match uvD 4 s with
    | some x => (x.1,some x.2)
    | none => (0,none)
  | none => (0,none)
def rdSpan (l : Int) (st : St) : List UInt8 × St :=
  match st with
  | some s => if 0 ≤ l ∧ l ≤ s.length then (s.take l.toNat,some (s.drop l.toNat)) else ([],none)
  | none => ([],none)
def rdLen (flex : Bool) (k : IntKind) (n : Nat) (st : St) : Int × St :=
  if flex = true then (((rdUv st).1 : Int) - 1,(rdUv st).2) else rdInt k n st
def rdStr (flex : Bool) (st : St) : List UInt8 × St := rdSpan (rdLen flex .i16 2 st).1 (rdLen flex .i16 2 st).2
def rdNStr (flex : Bool) (st : St) : (Bool × List UInt8) × St :=
  if (rdLen flex .i16 2 st).1 < 0 then ((true,[]),(rdLen flex .i16 2 st).2) else ((false,(rdStr flex st).1),(rdStr flex st).2)
def rdOct (flex : Bool) (st : St) : List UInt8 × St := rdSpan (rdLen flex .i32 4 st).1 (rdLen flex .i32 4 st).2
def rdBytes (flex : Bool) (st : St) : (Bool × List UInt8) × St :=
  if (rdLen flex .i32 4 st).1 = -1 then ((false,[]),(rdLen flex .i32 4 st).2) else (((rdOct flex st).2.isNone,(rdOct flex st).1),(rdOct flex st).2)
def rdNBytes (flex : Bool) (st : St) : (Bool × List UInt8) × St :=
  if (rdLen flex .i32 4 st).1 < 0 then ((true,[]),(rdLen flex .i32 4 st).2) else (((rdOct flex st).2.isNone,(rdOct flex st).1),(rdOct flex st).2)
def rdCnt (flex : Bool) (st : St) : Int × St := if flex = true then (IntKind.i32.wrap (IntKind.i32.wrap (rdUv st).1 - 1),(rdUv st).2) else rdInt .i32 4 st
def rdALen (flex : Bool) (st : St) : Int × St :=
  if (stLen (rdCnt flex st).2 : Int) < (rdCnt flex st).1 then (0,none) else rdCnt flex st

def tagPut (u : List TagD) (y : TagD) : List TagD := if u.any (fun x => x.1 == y.1) = true then u.map (fun x => if x.1 = y.1 then y else x) else u ++ [y]
def rdTag (u : List TagD) (st : St) : List TagD × St :=
  (tagPut u ((rdUv st).1,(rdSpan (rdUv (rdUv st).2).1 (rdUv (rdUv st).2).2).1),(rdSpan (rdUv (rdUv st).2).1 (rdUv (rdUv st).2).2).2)
def rdTagsN : Nat → List TagD → St → List TagD × St
  | 0,u,st => (u,st)
  | n + 1,u,st => rdTagsN n (rdTag u st).1 (rdTag u st).2
def rdTags (st : St) : List TagD × St := rdTagsN (rdUv st).1 [] (rdUv st).2

def Tree.num (n : Int) : Tree := .mk n [] false [] []
def Tree.oct (null : Bool) (s : List UInt8) : Tree := .mk 0 s null [] []
def kindK (k : Int) : IntKind := if k = 1 then .i8 else if k = 2 then .i16 else if k = 3 then .i32 else if k = 5 then .u16 else .i64
def rd1 (pt : List Fld → St → Tree × St) (kind : Int) (sub : List Fld) (may flex : Bool) (st : St) : Tree × St :=
  if kind = 0 then (.num (if beN (rdN 1 st).1 = 0 then 0 else 1),(rdN 1 st).2)
  else if kind = 7 then (.oct false (uuidS (rdSpan 16 st).1),(rdSpan 16 st).2)
  else if kind = 8 then (if may = true then (.oct (rdNStr flex st).1.1 (rdNStr flex st).1.2,(rdNStr flex st).2) else (.oct false (rdStr flex st).1,(rdStr flex st).2))
  else if kind = 9 then (if may = true then (.oct (rdNBytes flex st).1.1 (rdNBytes flex st).1.2,(rdNBytes flex st).2) else (.oct (rdBytes flex st).1.1 (rdBytes flex st).1.2,(rdBytes flex st).2))
  else if kind = 10 then pt sub st
  else (.num (rdInt (kindK kind) (widthS kind) st).1,(rdInt (kindK kind) (widthS kind) st).2)
def rdMany (r : St → Tree × St) : Nat → St → List Tree × St
  | 0,st => ([],st)
  | n + 1,st => ((r st).1 :: (rdMany r n (r st).2).1,(rdMany r n (r st).2).2)
def mayS (f : Fld) (v : Int) : Bool := decide (0 ≤ f.null) && decide (f.null ≤ v)
def nilS (f : Fld) (v : Int) (n : Int) : Bool := if 0 ≤ f.null then decide (f.null ≤ v) && decide (n < 0) else decide (n ≤ 0)
def rdList (f : Fld) (v : Int) (flex : Bool) (r : St → Tree × St) (st : St) : Tree × St :=
  (.mk 0 [] (nilS f v (rdALen flex st).1) (rdMany r (rdALen flex st).1.toNat (rdALen flex st).2).1 [],(rdMany r (rdALen flex st).1.toNat (rdALen flex st).2).2)
def rdOpt (r : St → Tree × St) (st : St) : Tree × St :=
  if (rdInt .i8 1 st).1 = -1 ∨ (rdInt .i8 1 st).2 = none then (.mk 0 [] true [] [],(rdInt .i8 1 st).2) else r (rdInt .i8 1 st).2
def rdF (pt : List Fld → St → Tree × St) (v : Int) (flex : Bool) (f : Fld) (st : St) : Tree × St :=
  if f.kind = 11 then rdList f v flex (rd1 pt f.of f.sub false flex) st else if f.kind = 10 ∧ 0 ≤ f.null then rdOpt (pt f.sub) st else rd1 pt f.kind f.sub (mayS f v) flex st
def dfF (dp : List Fld → Tree) (f : Fld) : Tree :=
  if f.kind = 8 then .oct (decide (0 ≤ f.null)) []
  else if f.kind = 7 then .oct false (uuidS [])
  else if f.kind = 9 then .oct true []
  else if f.kind = 11 then .mk 0 [] true [] []
  else if f.kind = 10 then (dp f.sub).setNull (decide (0 ≤ f.null))
  else .num f.df
def dfP : Nat → List Fld → Tree
  | 0,_ => .zero
  | d + 1,fs => .mk 0 [] false (fs.map (dfF (dfP d))) []
def rdL (pt : List Fld → St → Tree × St) (dp : List Fld → Tree) (v : Int) (flex : Bool) : List Fld → St → List Tree × St
  | [],st => ([],st)
  | f :: fs,st =>
    if f.tag < 0 ∧ hasS f v = true then ((rdF pt v flex f st).1 :: (rdL pt dp v flex fs (rdF pt v flex f st).2).1,(rdL pt dp v flex fs (rdF pt v flex f st).2).2)
    else (dfF dp f :: (rdL pt dp v flex fs st).1,(rdL pt dp v flex fs st).2)
def rdP : Nat → Int → Bool → List Fld → St → Tree × St
  | 0,_,_,_,st => (.zero,st)
  | d + 1,v,flex,fs,st =>
    if flex = true then (.mk 0 [] false (rdL (rdP d v flex) (dfP d) v flex fs st).1 (rdTags (rdL (rdP d v flex) (dfP d) v flex fs st).2).1,(rdTags (rdL (rdP d v flex) (dfP d) v flex fs st).2).2)
    else (.mk 0 [] false (rdL (rdP d v flex) (dfP d) v flex fs st).1 [],(rdL (rdP d v flex) (dfP d) v flex fs st).2)

/-! ### What has run out stays so -/
theorem rdLen_none (flex : Bool) (k : IntKind) (n : Nat) : (rdLen flex k n none).2 = none := by unfold rdLen;split <;> rfl
theorem rdStr_none (flex : Bool) : (rdStr flex none).2 = none := by unfold rdStr;rw [rdLen_none];rfl
theorem rdOct_none (flex : Bool) : (rdOct flex none).2 = none := by unfold rdOct;rw [rdLen_none];rfl
theorem rdNStr_none (flex : Bool) : (rdNStr flex none).2 = none := by
  unfold rdNStr
  split
  · exact rdLen_none _ _ _
  · exact rdStr_none _
theorem rdBytes_none (flex : Bool) : (rdBytes flex none).2 = none := by
  unfold rdBytes
  split
  · exact rdLen_none _ _ _
  · exact rdOct_none _
theorem rdNBytes_none (flex : Bool) : (rdNBytes flex none).2 = none := by
  unfold rdNBytes
  split
  · exact rdLen_none _ _ _
  · exact rdOct_none _
theorem rdCnt_none (flex : Bool) : (rdCnt flex none).2 = none := by unfold rdCnt;split <;> rfl
theorem rdALen_none (flex : Bool) : (rdALen flex none).2 = none := by
  unfold rdALen
  split
  · rfl
  · exact rdCnt_none _
theorem rdMany_none {r : St → Tree × St} (h : (r none).2 = none) : ∀ n,(rdMany r n none).2 = none
  | 0 => rfl
  | n + 1 => by rw [rdMany,h];exact rdMany_none h n
theorem rdTags_none : (rdTags none).2 = none := rfl
theorem rd1_none {pt : List Fld → St → Tree × St} (h : ∀ sub,(pt sub none).2 = none) (kind : Int) (sub : List Fld) (may flex : Bool) : (rd1 pt kind sub may flex none).2 = none := by
  unfold rd1
  split
  · rfl
  · split
    · rfl
    · split
      · split
        · exact rdNStr_none _
        · exact rdStr_none _
      · split
        · split
          · exact rdNBytes_none _
          · exact rdBytes_none _
        · split
          · exact h _
          · rfl
theorem rdF_none {pt : List Fld → St → Tree × St} (h : ∀ sub,(pt sub none).2 = none) (v : Int) (flex : Bool) (f : Fld) : (rdF pt v flex f none).2 = none := by
  unfold rdF
  split
  · unfold rdList
    rw [rdALen_none]
    exact rdMany_none (rd1_none h _ _ _ _) _
  · split
    · unfold rdOpt;rw [if_pos (.inr rfl)];rfl
    · exact rd1_none h _ _ _ _
theorem rdL_none {pt : List Fld → St → Tree × St} {dp : List Fld → Tree} (h : ∀ sub,(pt sub none).2 = none) (v : Int) (flex : Bool) : ∀ fs,(rdL pt dp v flex fs none).2 = none
  | [] => rfl
  | f :: fs => by
    rw [rdL]
    split
    · rw [rdF_none h];exact rdL_none h v flex fs
    · exact rdL_none h v flex fs
theorem rdP_none (v : Int) (flex : Bool) : ∀ d fs,(rdP d v flex fs none).2 = none
  | 0,_ => rfl
  | d + 1,fs => by
    rw [rdP]
    split
    · rw [rdL_none (rdP_none v flex d)];exact rdTags_none
    · exact rdL_none (rdP_none v flex d) v flex fs

theorem bytes_flat : ∀ s : List UInt8,(s.map fun b => [byteV b]).flatten = s.map byteV
  | [] => rfl
  | b :: s => by simp only [List.map_cons,List.flatten_cons,bytes_flat s];rfl
theorem BytesV.cells {ok : Blocks} {w : World} {v : Value} {s : List UInt8} (h : BytesV ok w v s) (hs : s ≠ []) : ∃ b o c x,v = .slice (some ⟨b,o,none⟩) s.length c ∧ s.length ≤ c ∧ ok b ∧ blk w b = some x ∧ ∀ i (hi : i < s.length),x.1[o + i]? = some (.int .u8 s[i].toNat) := by
  obtain ⟨base,c,rfl,hc,h1,h2⟩ := h
  rcases h2 with h2 | ⟨a,rfl,hsp,hok,x,hx,h3⟩
  · exact absurd (List.map_eq_nil_iff.1 h2) hs
  · obtain ⟨b,o,sp⟩ := a
    simp only at hsp;subst hsp
    refine ⟨b,o,c,x,by simp,by simpa using hc,hok,hx,fun i hi => ?_⟩
    have hl := flatten_len h1
    have := h3 i (by rw [hl];simpa using hi)
    have h4 := flatten_get h1 i (by simpa using hi) 0 (by omega)
    simp only [Nat.mul_one,Nat.add_zero] at h4
    rw [h4] at this
    simpa [byteV] using this
theorem BytesV.drop {ok : Blocks} {w : World} {a : Option Addr} {n c : Nat} {s : List UInt8} (h : BytesV ok w (.slice a n c) s) (k : Nat) (hk : k ≤ s.length) : BytesV ok w (.slice (slBase a k c 1) (s.length - k) (c - k)) (s.drop k) := by
  obtain ⟨base,c',h0,hc,h1,h2⟩ := h
  cases h0
  simp only [List.length_map] at hc
  refine ⟨slBase a k c 1,c - k,by simp,by rw [List.length_map,List.length_drop];omega,fun cs hm => ?_,?_⟩
  · obtain ⟨b,_,rfl⟩ := List.mem_map.1 hm;rfl
  · rcases Nat.lt_or_ge k s.length with hlt | hge
    · right
      rcases h2 with h2 | ⟨ad,rfl,hsp,hok,x,hx,h3⟩
      · rw [List.map_eq_nil_iff.1 h2] at hlt;simp at hlt
      · obtain ⟨b,o,sp⟩ := ad
        simp only at hsp;subst hsp
        refine ⟨⟨b,o + k,none⟩,?_,rfl,hok,x,hx,fun i hi => ?_⟩
        · unfold slBase
          rw [if_neg (show ¬ c = k by omega),Option.map_some,Nat.mul_one,add_plain]
        · rw [bytes_flat] at hi h3 ⊢
          have := h3 (k + i) (by rw [List.length_map,List.length_drop] at hi;rw [List.length_map];omega)
          simp only [Nat.add_assoc] at this ⊢
          rw [this]
          simp [List.getElem?_drop]
    · left
      rw [List.drop_of_length_le hge];rfl
theorem BytesV.span {ok : Blocks} {w : World} {a : Option Addr} {n c : Nat} {s : List UInt8} (h : BytesV ok w (.slice a n c) s) (k : Nat) (hk : k ≤ s.length) : BytesV ok w (.slice (slBase a 0 k 1) (k - 0) (k - 0)) (s.take k) := by
  have := h.take k hk
  obtain ⟨base,c',h0,hc,h1,h2⟩ := this
  simp only [Value.slice.injEq] at h0
  obtain ⟨rfl,h01,rfl⟩ := h0
  refine ⟨slBase a 0 k 1,k - 0,by rw [← h01,Nat.sub_zero],by rw [List.length_map,List.length_take];omega,h1,h2.imp id fun ⟨ad,e,hs⟩ => ?_⟩
  refine ⟨ad,?_,hs⟩
  rw [← e]
  unfold slBase
  cases a with
  | none => simp
  | some x =>
    obtain ⟨b,o,sp⟩ := x
    have hsp : sp = none := by
      have h9 := hs.1
      unfold slBase at e
      split at e
      · simp only [Option.some.injEq] at e;subst e;exact h9
      · simp only [Option.map_some,Option.some.injEq,Nat.zero_mul] at e
        subst e
        cases sp with
        | none => rfl
        | some q => simp [Addr.add] at h9
    subst hsp
    split <;> split <;> simp [add_plain]
theorem slBase_some {a : Option Addr} {l m s : Nat} (h : ∃ x,a = some x) : ∃ x,slBase a l m s = some x := by
  obtain ⟨x,rfl⟩ := h
  unfold slBase
  split
  · exact ⟨_,rfl⟩
  · exact ⟨_,rfl⟩
theorem BytesV.nil (ok : Blocks) (w : World) : BytesV ok w (.slice none 0 0) [] := ⟨none,0,rfl,Nat.le_refl _,by simp,.inl rfl⟩

structure Rdr (T : TypeId) (ok : Blocks) (w : World) (rb : Nat) (st : St) : Prop where
  ex : ∃ v,blk w rb = some (#[v,.bool st.isNone],T,(0,0)) ∧ BytesV ok w v (st.getD []) ∧ (st = none → v = .slice none 0 0)
theorem Rdr.upd {T : TypeId} {ok : Blocks} {w w' : World} {rb : Nat} {st : St} {S : Nat → Prop} (h : Rdr T ok w rb st) (u : Upd S w w') (h1 : ¬ S rb) (h2 : ∀ b,b < w.heap.size → ok b → ¬ S b) : Rdr T ok w' rb st := by
  obtain ⟨v,g1,g2,g3⟩ := h.ex
  exact ⟨v,u.blk_some g1 h1,g2.keep (u.keeps h2),g3⟩
theorem Rdr.lt {T : TypeId} {ok : Blocks} {w : World} {rb : Nat} {st : St} (h : Rdr T ok w rb st) : rb < w.heap.size := by
  obtain ⟨v,g1,_⟩ := h.ex;exact blk_lt g1
theorem Rdr.bad {T : TypeId} {ok : Blocks} {w' : World} {rb : Nat} (h : blk w' rb = some (#[.slice none 0 0,.bool true],T,(0,0))) : Rdr T ok w' rb none := ⟨_,h,BytesV.nil _ _,fun _ => rfl⟩
theorem Rdr.good {T : TypeId} {ok : Blocks} {w' : World} {rb : Nat} {v : Value} {s : List UInt8} (h : blk w' rb = some (#[v,.bool false],T,(0,0))) (hb : BytesV ok w' v s) : Rdr T ok w' rb (some s) := ⟨_,h,hb,fun h => by cases h⟩

theorem rdN_few {n : Nat} {st : St} (h : stLen st < n) : rdN n st = ([],none) := by
  unfold rdN
  cases st with
  | none => rfl
  | some s => simp only [stLen,Option.getD_some] at h;simp only;rw [if_neg (by omega)]
theorem rdN_some {n : Nat} {s : List UInt8} (h : n ≤ s.length) : rdN n (some s) = (s.take n,some (s.drop n)) := by
  unfold rdN;simp only;rw [if_pos h]
theorem st_some {n : Nat} {st : St} (h : ¬ stLen st < n + 1) : ∃ s,st = some s ∧ n + 1 ≤ s.length := by
  cases st with
  | none => exact absurd (by simp [stLen]) h
  | some s => exact ⟨s,rfl,by simp only [stLen,Option.getD_some] at h;omega⟩

/-! ### Octets put together -/
theorem or_shift {bits k x y : Nat} (hy : y < 2 ^ k) (h : x * 2 ^ k + y < 2 ^ bits) : (BitVec.ofInt bits ((y : Nat) : Int) ||| BitVec.ofInt bits ((x * 2 ^ k : Nat) : Int)).toNat = x * 2 ^ k + y := by
  rw [BitVec.toNat_or,BitVec.ofInt_natCast,BitVec.ofInt_natCast,BitVec.toNat_ofNat,BitVec.toNat_ofNat,Nat.mod_eq_of_lt (by omega),Nat.mod_eq_of_lt (by omega),Nat.or_comm]
  have := Nat.shiftLeft_add_eq_or_of_lt hy x
  rw [Nat.shiftLeft_eq] at this
  exact this.symm
theorem beN_1 (a : UInt8) : beN [a] = a.toNat := by simp [beN]
theorem beN_2 (a b : UInt8) : beN [a,b] = a.toNat * 256 + b.toNat := by simp [beN]
theorem beN_4 (a b c d : UInt8) : beN [a,b,c,d] = ((a.toNat * 256 + b.toNat) * 256 + c.toNat) * 256 + d.toNat := by simp [beN]
theorem u8_lt (a : UInt8) : a.toNat < 256 := a.toNat_lt


def NN (w : World) (rb : Nat) (st : St) : Prop := st ≠ none → ∃ a n c x,blk w rb = some x ∧ x.1[0]? = some (.slice (some a) n c)
theorem NN.none (w : World) (rb : Nat) : NN w rb none := fun h => absurd rfl h
theorem NN.upd {w w' : World} {rb : Nat} {st : St} {S : Nat → Prop} (h : NN w rb st) (u : Upd S w w') (h1 : ¬ S rb) : NN w' rb st := fun h2 => by
  obtain ⟨a,n,c,x,g1,g2⟩ := h h2
  exact ⟨a,n,c,x,u.blk_some g1 h1,g2⟩
def RdQ (T : TypeId) (ok : Blocks) (rb : Nat) (w : World) (val : Value) (st : St) (r : Value) (w' : World) : Prop := r = val ∧ (Rdr T ok w' rb st ∧ NN w' rb st) ∧ Upd (fun b => b = rb) w w'
theorem RdQ.bad {T : TypeId} {ok : Blocks} {rb : Nat} {w : World} {v v1 val : Value} (hb : blk w rb = some (#[v,v1],T,(0,0))) : RdQ T ok rb w val none val (wr (wr w rb 1 [.bool true]) rb 0 [.slice none 0 0]) := by
  refine ⟨rfl,⟨Rdr.bad ?_,NN.none _ _⟩,Upd.wr (S := fun b => b = rb) (Upd.wr (S := fun b => b = rb) (Upd.refl _ _) _ _ (.inr rfl)) _ _ (.inr rfl)⟩
  rw [blk_wr_eq,blk_wr_eq,hb];rfl
theorem RdQ.good {T : TypeId} {ok : Blocks} {rb n c k : Nat} {a : Option Addr} {w w1 : World} {val : Value} {s : List UInt8} (hE : Ext w w1) (hb : blk w rb = some (#[.slice a n c,.bool false],T,(0,0))) (hB : BytesV ok w (.slice a n c) s) (hr : ¬ ok rb) (hk : k ≤ s.length) (h0 : 0 < k) :
    RdQ T ok rb w val (some (s.drop k)) val (wr w1 rb 0 [.slice (slBase a k c 1) (s.length - k) (c - k)]) := by
  have hu : Upd (fun b => b = rb) w (wr w1 rb 0 [.slice (slBase a k c 1) (s.length - k) (c - k)]) := (hE.mono fun _ h => h.elim).wr _ _ (.inr rfl)
  have hb2 : blk (wr w1 rb 0 [.slice (slBase a k c 1) (s.length - k) (c - k)]) rb = some (#[.slice (slBase a k c 1) (s.length - k) (c - k),.bool false],T,(0,0)) := by
    rw [blk_wr_eq,hE.blk_some hb id];rfl
  refine ⟨rfl,⟨Rdr.good (v := .slice (slBase a k c 1) (s.length - k) (c - k)) hb2 ((hB.drop k hk).keep (hu.keeps fun b _ hk e => hr (e ▸ hk))),fun _ => ?_⟩,hu⟩
  obtain ⟨B,o,c',x,hv,_⟩ := hB.cells (by intro h;rw [h] at hk;simp at hk;omega)
  cases hv
  obtain ⟨y,hy⟩ := slBase_some (a := some ⟨B,o,none⟩) (l := k) (m := c) (s := 1) ⟨_,rfl⟩
  exact ⟨y,_,_,_,hb2,by rw [hy];rfl⟩
theorem RdQ.then {T : TypeId} {ok : Blocks} {rb : Nat} {w w1 w2 : World} {val' r' : Value} {st' : St} (h : Upd (fun b => b = rb) w w1) (h' : RdQ T ok rb w1 val' st' r' w2) : RdQ T ok rb w val' st' r' w2 := ⟨h'.1,h'.2.1,h.trans h'.2.2⟩
theorem RdQ.ext {T : TypeId} {ok : Blocks} {rb : Nat} {w w1 w2 : World} {val' r' : Value} {st : St} (h : Upd (fun b => b = rb) w w1) (h1 : Rdr T ok w1 rb st ∧ NN w1 rb st) (e : Ext w1 w2) (hr : r' = val') : RdQ T ok rb w val' st r' w2 :=
  ⟨hr,⟨h1.1.upd e (fun h => h) (fun _ _ _ h => h),h1.2.upd e fun h => h⟩,h.trans (e.mono fun _ h => h.elim)⟩
def SpanQ (T : TypeId) (ok : Blocks) (rb : Nat) (w : World) (st st' : St) (l : Int) (s : List UInt8) (r : Value) (w' : World) : Prop :=
  BytesV ok w' r s ∧ (st' = none → r = .slice none 0 0) ∧ (NN w rb st ∨ 0 < l → st' ≠ none → ∃ a n c,r = .slice (some a) n c) ∧ Rdr T ok w' rb st' ∧ (NN w rb st ∨ 0 < l → NN w' rb st') ∧ Upd (fun b => b = rb) w w'
theorem SpanQ.bad {T : TypeId} {ok : Blocks} {rb : Nat} {w : World} {st : St} {l : Int} {v v1 : Value} (hb : blk w rb = some (#[v,v1],T,(0,0))) : SpanQ T ok rb w st none l [] (.slice none 0 0) (wr (wr w rb 1 [.bool true]) rb 0 [.slice none 0 0]) := by
  obtain ⟨_,⟨h1,h2⟩,h3⟩ := RdQ.bad (ok := ok) (val := .slice none 0 0) hb
  exact ⟨BytesV.nil _ _,fun _ => rfl,fun _ h => absurd rfl h,h1,fun _ => h2,h3⟩
theorem SpanQ.good {T : TypeId} {ok : Blocks} {rb n c k : Nat} {a : Option Addr} {w : World} {s : List UInt8} (hb : blk w rb = some (#[.slice a n c,.bool false],T,(0,0))) (hB : BytesV ok w (.slice a n c) s) (hr : ¬ ok rb) (hk : k ≤ s.length) :
    SpanQ T ok rb w (some s) (some (s.drop k)) k (s.take k) (.slice (slBase a 0 k 1) k k) (wr w rb 0 [.slice (slBase a k c 1) (s.length - k) (c - k)]) := by
  have hu : Upd (fun b => b = rb) w (wr w rb 0 [.slice (slBase a k c 1) (s.length - k) (c - k)]) := (Upd.refl _ _).wr _ _ (.inr rfl)
  have hb2 : blk (wr w rb 0 [.slice (slBase a k c 1) (s.length - k) (c - k)]) rb = some (#[.slice (slBase a k c 1) (s.length - k) (c - k),.bool false],T,(0,0)) := by
    rw [blk_wr_eq,hb];rfl
  have hs : NN w rb (some s) ∨ 0 < (k : Int) → ∃ y,a = some y := by
    rintro (h | h)
    · obtain ⟨y,_,_,x,g1,g2⟩ := h (by simp)
      rw [hb] at g1;cases g1
      simp at g2
      exact ⟨y,g2.1⟩
    · obtain ⟨B,o,c',x,hv,_⟩ := hB.cells (by intro h0;rw [h0] at hk;simp at hk;omega)
      cases hv;exact ⟨_,rfl⟩
  refine ⟨(hB.span k hk).keep (hu.keeps fun b _ hk e => hr (e ▸ hk)),(fun h => by cases h),(fun h _ => ?_),Rdr.good hb2 ((hB.drop k hk).keep (hu.keeps fun b _ hk e => hr (e ▸ hk))),(fun h _ => ?_),hu⟩
  · obtain ⟨y,hy⟩ := slBase_some (l := 0) (m := k) (s := 1) (hs h)
    exact ⟨y,_,_,by rw [hy]⟩
  · obtain ⟨y,hy⟩ := slBase_some (l := k) (m := c) (s := 1) (hs h)
    exact ⟨y,_,_,_,hb2,by rw [hy];rfl⟩
theorem SpanQ.zero {T : TypeId} {ok : Blocks} {rb : Nat} {w : World} (hb : blk w rb = some (#[.slice none 0 0,.bool true],T,(0,0))) :
    SpanQ T ok rb w none none 0 [] (.slice none 0 0) (wr w rb 0 [.slice none 0 0]) := by
  refine ⟨BytesV.nil _ _,fun _ => rfl,fun _ h => absurd rfl h,Rdr.bad ?_,fun _ => NN.none _ _,(Upd.refl _ _).wr _ _ (.inr rfl)⟩
  rw [blk_wr_eq,hb];rfl
theorem rdSpan_bad {l : Int} {st : St} (h : l < 0 ∨ (stLen st : Int) < l) : rdSpan l st = ([],none) := by
  unfold rdSpan
  cases st with
  | none => rfl
  | some s => simp only [stLen,Option.getD_some] at h;simp only;rw [if_neg (by omega)]
theorem rdSpan_good {k : Nat} {s : List UInt8} (h : k ≤ s.length) : rdSpan (k : Int) (some s) = (s.take k,some (s.drop k)) := by
  unfold rdSpan;simp only;rw [if_pos ⟨by omega,by omega⟩];rfl
theorem isNone_some_st (s : List UInt8) : (some s : St).isNone = false := rfl

theorem rd16_64 (st : St) : IntKind.i64.wrap (rdInt .i16 2 st).1 = (rdInt .i16 2 st).1 := by
  unfold rdInt
  generalize beN (rdN 2 st).1 = n
  have : -32768 ≤ IntKind.i16.wrap (n : Int) ∧ IntKind.i16.wrap (n : Int) < 32768 := by
    unfold IntKind.wrap;simp [IntKind.bits,IntKind.signed];split <;> omega
  exact i64_wrap (by omega)
theorem rd32_64 (st : St) : IntKind.i64.wrap (rdInt .i32 4 st).1 = (rdInt .i32 4 st).1 := by
  unfold rdInt
  generalize beN (rdN 4 st).1 = n
  have : -2147483648 ≤ IntKind.i32.wrap (n : Int) ∧ IntKind.i32.wrap (n : Int) < 2147483648 := by
    unfold IntKind.wrap;simp [IntKind.bits,IntKind.signed];split <;> omega
  exact i64_wrap (by omega)
theorem rdStr_f (st : St) : rdStr false st = rdSpan (rdInt .i16 2 st).1 (rdInt .i16 2 st).2 := by simp [rdStr,rdLen]
theorem rdOct_f (st : St) : rdOct false st = rdSpan (rdInt .i32 4 st).1 (rdInt .i32 4 st).2 := by simp [rdOct,rdLen]
theorem rdLen_f (k : IntKind) (n : Nat) (st : St) : rdLen false k n st = rdInt k n st := by simp [rdLen]
theorem rdLen_t (k : IntKind) (n : Nat) (st : St) : rdLen true k n st = (((rdUv st).1 : Int) - 1,(rdUv st).2) := by simp [rdLen]
theorem rdCnt_f (st : St) : rdCnt false st = rdInt .i32 4 st := by simp [rdCnt]
theorem rdCnt_t (st : St) : rdCnt true st = (IntKind.i32.wrap (IntKind.i32.wrap (rdUv st).1 - 1),(rdUv st).2) := by simp [rdCnt]
def RdB (T : TypeId) (ok : Blocks) (rb : Nat) (w : World) (st : St) (w' : World) : Prop := (Rdr T ok w' rb st ∧ NN w' rb st) ∧ Upd (fun b => b = rb) w w'
def errV (ev : Value) (st : St) : Value := if st.isNone = true then ev else .nilIface

theorem uuidS_idem (s : List UInt8) : uuidS (uuidS s) = uuidS s := by
  have hu := uuidS_len s
  generalize uuidS s = x at *
  unfold uuidS
  rw [List.take_of_length_le (by omega),hu]
  simp
theorem Rdr.weaken {T : TypeId} {ok ok' : Blocks} {w : World} {rb : Nat} {st : St} (h : Rdr T ok w rb st) (k : ∀ b,b < w.heap.size → ok b → ok' b) : Rdr T ok' w rb st := by
  obtain ⟨v,g1,g2,g3⟩ := h.ex
  exact ⟨v,g1,g2.weaken k,g3⟩
end Ms

namespace Ms
open Go.World renaming size_alloc → qI
open Ms renaming size_wr → qJ,size_drew → qK,not_noB → qL
open W renaming seqR → qA,seq → qB,regR → qC,condK → qD,block → qE,skip → qF,ret → qG,exit → qH
open Nat renaming reduceEqDiff → n0,reduceAdd → n1,reduceMul → n2,reduceSub → n3,reduceLT → n4,reduceLeDiff → n5
open Int renaming reduceEq → i0,reduceLT → i1,reduceLE → i2,reduceNeg → i3,reduceAdd → i4,reduceSub → i5,reduceMul → i6,reduceToNat → i7
set_option maxRecDepth 4000
open Go Go.Proofs
attribute [local congr] W_congr WPsq_congr WPp_congr optK_congr addrK_congr intK_congr boolK_congr sliceK_congr tupleK_congr funcK_congr Fn_congr rawK_congr takeK_congr stepK_congr convK_congr aggK_congr

theorem BE16_fn {ok : Blocks} (v : Value) (s : List UInt8) (w : World) (h : BytesV ok w v s) (hl : 2 ≤ s.length) :
    Fn Tryd.prog 48 #[.agg #[],v] w fun r w' => r = .int .u16 (beN (s.take 2)) ∧ Ext w w' := by
  obtain ⟨x0,x1,rest,rfl⟩ : ∃ x0 x1 rest,s = x0 :: x1 :: rest := by
    match s,hl with
    | x0 :: x1 :: rest,_ => exact ⟨x0,x1,rest,rfl⟩
  obtain ⟨B,o,c,x,rfl,hc,hok,hx,hq⟩ := h.cells (by simp)
  have hbe : ((beN ((x0 :: x1 :: rest).take 2) : Nat) : Int) = (beN [x0,x1] : Nat) := rfl
  rw [hbe,beN_2]
  have q0 : x.1[o]? = some (.int .u8 x0.toNat) := hq 0 (by simp)
  have q1 : x.1[o + 1]? = some (.int .u8 x1.toNat) := hq 1 (by simp)
  clear hq hbe h
  have hp0 := u8_lt x0
  generalize x0.toNat = p0 at *
  have hp1 := u8_lt x1
  generalize x1.toNat = p1 at *
  have hlt := blk_lt hx
  have c0 : IntKind.u16.wrap ((p0 : Int)) = (p0 : Int) := by unfold IntKind.wrap;simp [IntKind.bits,IntKind.signed];omega
  have c1 : IntKind.u16.wrap ((p1 : Int)) = (p1 : Int) := by unfold IntKind.wrap;simp [IntKind.bits,IntKind.signed];omega
  have s0 : IntKind.u16.wrap ((p0 : Int) * 2 ^ (min 8 (kbits .u16))) = ((p0 * 2 ^ 8 : Nat) : Int) := by
    rw [show (2 : Int) ^ (min 8 (kbits .u16)) = 256 from rfl,show (2 : Nat) ^ 8 = 256 from rfl];unfold IntKind.wrap;simp [IntKind.bits,IntKind.signed];omega
  have hA0 : p1 < 256 := by omega
  have o0 : (BitVec.ofInt (kbits .u16) ((p1 : Nat) : Int) ||| BitVec.ofInt (kbits .u16) ((p0 * 2 ^ 8 : Nat) : Int)).toNat = p0 * 2 ^ 8 + p1 := or_shift (bits := 16) hA0 (by omega)
  obtain ⟨a0,ha0⟩ : ∃ a,a = p0 * 2 ^ 8 + p1 := ⟨_,rfl⟩
  rw [← ha0] at o0
  have w0 : IntKind.u16.wrap ((a0 : Nat) : Int) = ((a0 : Nat) : Int) := by unfold IntKind.wrap;simp [IntKind.bits,IntKind.signed];omega
  have hfin : (p0 * 256 + p1) = a0 := by omega
  rw [hfin]
  refine fn_of_W Tryd.func48 rfl Tryd.results48 Tryd.ntmps48 rfl ?_
  repeat ((first | refine qA rfl ?_|apply qB|refine qC rfl ?_|apply qD|apply qE|apply qF|apply qG|apply qH);try simp (maxSteps:=1000000)(disch:=(first|omega|(simp only [qI,qJ,qK]<;>omega)|exact qL _)) only [go_sem,↓reduceIte,n0,reduceCtorEq,n1,n2,n3,n4,n5,i0,i1,i2,i3,i4,i5,i6,i7,hx,q0,q1])
  refine W.drawR (.take 0 (.take 1 (.take 2 (.take 3 (.take 4 (.take 5 (.take 6 (.take 7 (.take 8 (.take 9 (.only 10 .done))))))))))) NoB mixed (by kernel_rfl) ?_
  simp (maxSteps:=1000000)(disch:=(first|omega|(simp only [qI,qJ,qK]<;>omega)|exact qL _)) only [go_sem,↓reduceIte,n0,reduceCtorEq,n1,n2,n3,n4,n5,i0,i1,i2,i3,i4,i5,i6,i7,hx,q0,q1,c0,c1,s0,o0,w0]
  refine ⟨Upd.refl _ _,?_⟩
  repeat ((first | refine qA rfl ?_|apply qB|refine qC rfl ?_|apply qD|apply qE|apply qF|apply qG|apply qH);try simp (maxSteps:=1000000)(disch:=(first|omega|(simp only [qI,qJ,qK]<;>omega)|exact qL _)) only [go_sem,↓reduceIte,n0,reduceCtorEq,n1,n2,n3,n4,n5,i0,i1,i2,i3,i4,i5,i6,i7])
  exact (Upd.alloc (Upd.refl _ _) _).drew

theorem BE32_fn {ok : Blocks} (v : Value) (s : List UInt8) (w : World) (h : BytesV ok w v s) (hl : 4 ≤ s.length) :
    Fn Tryd.prog 51 #[.agg #[],v] w fun r w' => r = .int .u32 (beN (s.take 4)) ∧ Ext w w' := by
  obtain ⟨x0,x1,x2,x3,rest,rfl⟩ : ∃ x0 x1 x2 x3 rest,s = x0 :: x1 :: x2 :: x3 :: rest := by
    match s,hl with
    | x0 :: x1 :: x2 :: x3 :: rest,_ => exact ⟨x0,x1,x2,x3,rest,rfl⟩
  obtain ⟨B,o,c,x,rfl,hc,hok,hx,hq⟩ := h.cells (by simp)
  have hbe : ((beN ((x0 :: x1 :: x2 :: x3 :: rest).take 4) : Nat) : Int) = (beN [x0,x1,x2,x3] : Nat) := rfl
  rw [hbe,beN_4]
  have q0 : x.1[o]? = some (.int .u8 x0.toNat) := hq 0 (by simp)
  have q1 : x.1[o + 1]? = some (.int .u8 x1.toNat) := hq 1 (by simp)
  have q2 : x.1[o + 2]? = some (.int .u8 x2.toNat) := hq 2 (by simp)
  have q3 : x.1[o + 3]? = some (.int .u8 x3.toNat) := hq 3 (by simp)
  clear hq hbe h
  have hp0 := u8_lt x0
  generalize x0.toNat = p0 at *
  have hp1 := u8_lt x1
  generalize x1.toNat = p1 at *
  have hp2 := u8_lt x2
  generalize x2.toNat = p2 at *
  have hp3 := u8_lt x3
  generalize x3.toNat = p3 at *
  have hlt := blk_lt hx
  have c0 : IntKind.u32.wrap ((p0 : Int)) = (p0 : Int) := by unfold IntKind.wrap;simp [IntKind.bits,IntKind.signed];omega
  have c1 : IntKind.u32.wrap ((p1 : Int)) = (p1 : Int) := by unfold IntKind.wrap;simp [IntKind.bits,IntKind.signed];omega
  have c2 : IntKind.u32.wrap ((p2 : Int)) = (p2 : Int) := by unfold IntKind.wrap;simp [IntKind.bits,IntKind.signed];omega
  have c3 : IntKind.u32.wrap ((p3 : Int)) = (p3 : Int) := by unfold IntKind.wrap;simp [IntKind.bits,IntKind.signed];omega
  have s2 : IntKind.u32.wrap ((p2 : Int) * 2 ^ (min 8 (kbits .u32))) = ((p2 * 2 ^ 8 : Nat) : Int) := by
    rw [show (2 : Int) ^ (min 8 (kbits .u32)) = 256 from rfl,show (2 : Nat) ^ 8 = 256 from rfl];unfold IntKind.wrap;simp [IntKind.bits,IntKind.signed];omega
  have hA2 : p3 < 256 := by omega
  have o2 : (BitVec.ofInt (kbits .u32) ((p3 : Nat) : Int) ||| BitVec.ofInt (kbits .u32) ((p2 * 2 ^ 8 : Nat) : Int)).toNat = p2 * 2 ^ 8 + p3 := or_shift (bits := 32) hA2 (by omega)
  obtain ⟨a2,ha2⟩ : ∃ a,a = p2 * 2 ^ 8 + p3 := ⟨_,rfl⟩
  rw [← ha2] at o2
  have w2 : IntKind.u32.wrap ((a2 : Nat) : Int) = ((a2 : Nat) : Int) := by unfold IntKind.wrap;simp [IntKind.bits,IntKind.signed];omega
  have s1 : IntKind.u32.wrap ((p1 : Int) * 2 ^ (min 16 (kbits .u32))) = ((p1 * 2 ^ 16 : Nat) : Int) := by
    rw [show (2 : Int) ^ (min 16 (kbits .u32)) = 65536 from rfl,show (2 : Nat) ^ 16 = 65536 from rfl];unfold IntKind.wrap;simp [IntKind.bits,IntKind.signed];omega
  have hA1 : a2 < 65536 := by omega
  have o1 : (BitVec.ofInt (kbits .u32) ((a2 : Nat) : Int) ||| BitVec.ofInt (kbits .u32) ((p1 * 2 ^ 16 : Nat) : Int)).toNat = p1 * 2 ^ 16 + a2 := or_shift (bits := 32) hA1 (by omega)
  obtain ⟨a1,ha1⟩ : ∃ a,a = p1 * 2 ^ 16 + a2 := ⟨_,rfl⟩
  rw [← ha1] at o1
  have w1 : IntKind.u32.wrap ((a1 : Nat) : Int) = ((a1 : Nat) : Int) := by unfold IntKind.wrap;simp [IntKind.bits,IntKind.signed];omega
  have s0 : IntKind.u32.wrap ((p0 : Int) * 2 ^ (min 24 (kbits .u32))) = ((p0 * 2 ^ 24 : Nat) : Int) := by
    rw [show (2 : Int) ^ (min 24 (kbits .u32)) = 16777216 from rfl,show (2 : Nat) ^ 24 = 16777216 from rfl];unfold IntKind.wrap;simp [IntKind.bits,IntKind.signed];omega
  have hA0 : a1 < 16777216 := by omega
  have o0 : (BitVec.ofInt (kbits .u32) ((a1 : Nat) : Int) ||| BitVec.ofInt (kbits .u32) ((p0 * 2 ^ 24 : Nat) : Int)).toNat = p0 * 2 ^ 24 + a1 := or_shift (bits := 32) hA0 (by omega)
  obtain ⟨a0,ha0⟩ : ∃ a,a = p0 * 2 ^ 24 + a1 := ⟨_,rfl⟩
  rw [← ha0] at o0
  have w0 : IntKind.u32.wrap ((a0 : Nat) : Int) = ((a0 : Nat) : Int) := by unfold IntKind.wrap;simp [IntKind.bits,IntKind.signed];omega
  have hfin : (((p0 * 256 + p1) * 256 + p2) * 256 + p3) = a0 := by omega
  rw [hfin]
  refine fn_of_W Tryd.func51 rfl Tryd.results51 Tryd.ntmps51 rfl ?_
  repeat ((first | refine qA rfl ?_|apply qB|refine qC rfl ?_|apply qD|apply qE|apply qF|apply qG|apply qH);try simp (maxSteps:=1000000)(disch:=(first|omega|(simp only [qI,qJ,qK]<;>omega)|exact qL _)) only [go_sem,↓reduceIte,n0,reduceCtorEq,n1,n2,n3,n4,n5,i0,i1,i2,i3,i4,i5,i6,i7,hx,q0,q1,q2,q3])
  refine W.drawR (.take 0 (.take 1 (.take 2 (.take 3 (.take 4 (.take 5 (.take 6 (.take 7 (.take 8 (.take 9 (.take 10 (.take 11 (.take 12 (.take 13 (.take 14 (.take 15 (.take 16 (.take 17 (.take 18 (.take 19 (.take 20 (.take 21 (.only 22 .done))))))))))))))))))))))) NoB mixed (by kernel_rfl) ?_
  simp (maxSteps:=1000000)(disch:=(first|omega|(simp only [qI,qJ,qK]<;>omega)|exact qL _)) only [go_sem,↓reduceIte,n0,reduceCtorEq,n1,n2,n3,n4,n5,i0,i1,i2,i3,i4,i5,i6,i7,hx,q0,q1,q2,q3,c0,c1,c2,c3,s2,o2,w2,s1,o1,w1,s0,o0,w0]
  refine ⟨Upd.refl _ _,?_⟩
  repeat ((first | refine qA rfl ?_|apply qB|refine qC rfl ?_|apply qD|apply qE|apply qF|apply qG|apply qH);try simp (maxSteps:=1000000)(disch:=(first|omega|(simp only [qI,qJ,qK]<;>omega)|exact qL _)) only [go_sem,↓reduceIte,n0,reduceCtorEq,n1,n2,n3,n4,n5,i0,i1,i2,i3,i4,i5,i6,i7])
  exact (Upd.alloc (Upd.refl _ _) _).drew

end Ms

namespace Ms
open Nat renaming reduceEqDiff → n0,reduceAdd → n1,reduceMul → n2,reduceSub → n3,reduceLT → n4,reduceLeDiff → n5
open Int renaming reduceEq → i0,reduceLT → i1,reduceLE → i2,reduceNeg → i3,reduceAdd → i4,reduceSub → i5,reduceMul → i6,reduceToNat → i7
set_option maxRecDepth 8000
open Go Go.Proofs
attribute [local congr] W_congr WPsq_congr WPp_congr optK_congr addrK_congr intK_congr boolK_congr sliceK_congr tupleK_congr funcK_congr Fn_congr rawK_congr takeK_congr stepK_congr convK_congr aggK_congr

end Ms

namespace Ms
open Go.World renaming size_alloc → qI
open Ms renaming size_wr → qJ,size_drew → qK,not_noB → qL
open W renaming seqR → qA,seq → qB,regR → qC,condK → qD,block → qE,skip → qF,ret → qG,exit → qH
open Nat renaming reduceEqDiff → n0,reduceAdd → n1,reduceMul → n2,reduceSub → n3,reduceLT → n4,reduceLeDiff → n5
open Int renaming reduceEq → i0,reduceLT → i1,reduceLE → i2,reduceNeg → i3,reduceAdd → i4,reduceSub → i5,reduceMul → i6,reduceToNat → i7
set_option maxRecDepth 8000
open Go Go.Proofs
attribute [local congr] W_congr WPsq_congr WPp_congr optK_congr addrK_congr intK_congr boolK_congr sliceK_congr tupleK_congr funcK_congr Fn_congr rawK_congr takeK_congr stepK_congr convK_congr aggK_congr

abbrev RT : TypeId := 84
def GloBE (w : World) : Prop := ∃ x,blk w 0 = some x
theorem GloBE.upd {w w' : World} {rb : Nat} (h : GloBE w) (u : Upd (fun b => b = rb) w w') (hr : ¬ 0 = rb) : GloBE w' := by
  obtain ⟨x,h⟩ := h;exact ⟨x,u.blk_some h hr⟩
theorem GloBE.ext {w w' : World} (h : GloBE w) (u : Ext w w') : GloBE w' := by
  obtain ⟨x,h⟩ := h;exact ⟨x,u.blk_some h id⟩

theorem Int16_fn {ok : Blocks} {rb : Nat} {st : St} (w : World) (h : Rdr RT ok w rb st) (hr : ¬ ok rb) (hg : GloBE w) (hrg : ¬ 0 = rb) :
    Fn Tryd.prog 37 #[.pointer (some ⟨rb,0,none⟩)] w (RdQ RT ok rb w (.int .i16 (rdInt .i16 2 st).1) (rdInt .i16 2 st).2) := by
  obtain ⟨v,hb,hB,hn⟩ := h.ex
  obtain ⟨a,c,rfl,hc⟩ := hB.shape
  have hbl := blk_lt hb
  by_cases hf : stLen st < 2
  · have hf2 : (st.getD []).length < 2 := hf
    rw [rdInt,rdN_few hf]
    refine fn_of_W Tryd.func37 rfl Tryd.results37 Tryd.ntmps37 rfl ?_
    repeat ((first | refine qA rfl ?_|apply qB|refine qC rfl ?_|apply qD|apply qE|apply qF|apply qG|apply qH);try simp (maxSteps:=1000000)(disch:=(first|omega|(simp only [qI,qJ,qK]<;>omega)|exact qL _)) only [go_sem,↓reduceIte,n0,reduceCtorEq,n1,n2,n3,n4,n5,i0,i1,i2,i3,i4,i5,i6,i7,hb])
    exact RdQ.bad hb
  · obtain ⟨s,rfl,hs⟩ := st_some hf
    simp only [Option.getD_some,isNone_some_st] at hb hB hc
    rw [rdInt,rdN_some hs]
    simp only [Option.getD_some]
    obtain ⟨xg,hg⟩ := hg
    have hgl := blk_lt hg
    have hz : xg.1.extract 0 0 = #[] := by simp
    refine fn_of_W Tryd.func37 rfl Tryd.results37 Tryd.ntmps37 rfl ?_
    repeat ((first | refine qA rfl ?_|apply qB|refine qC rfl ?_|apply qD|apply qE|apply qF|apply qG|apply qH);try simp (maxSteps:=1000000)(disch:=(first|omega|(simp only [qI,qJ,qK]<;>omega)|exact qL _)) only [go_sem,↓reduceIte,n0,reduceCtorEq,n1,n2,n3,n4,n5,i0,i1,i2,i3,i4,i5,i6,i7,hb,hg,hz])
    refine W.drawR (.take 0 (.take 1 (.take 2 (.take 3 (.take 4 (.only 5 (.take 6 (.only 7 .done)))))))) NoB mixed (by kernel_rfl) ?_
    simp (maxSteps:=1000000)(disch:=(first|omega|(simp only [qI,qJ,qK]<;>omega)|exact qL _)) only [go_sem,↓reduceIte,n0,reduceCtorEq,n1,n2,n3,n4,n5,i0,i1,i2,i3,i4,i5,i6,i7,hb,hg,hz]
    have hEd : Ext w w.drew := (Upd.refl _ _).drew
    refine (BE16_fn (ok := ok) _ s w.drew (hB.keep (hEd.keeps _)) hs).mono ?_
    rintro r5 w1 ⟨rfl,hE1⟩
    have hE := hEd.trans hE1
    have hb1 := hE.blk_some hb id
    refine ⟨hE1,?_⟩
    simp (maxSteps:=1000000)(disch:=(first|omega|(simp only [qI,qJ,qK]<;>omega)|exact qL _)) only [go_sem,↓reduceIte,n0,reduceCtorEq,n1,n2,n3,n4,n5,i0,i1,i2,i3,i4,i5,i6,i7,hb1]
    refine ⟨hE1,?_⟩
    repeat ((first | refine qA rfl ?_|apply qB|refine qC rfl ?_|apply qD|apply qE|apply qF|apply qG|apply qH);try simp (maxSteps:=1000000)(disch:=(first|omega|(simp only [qI,qJ,qK]<;>omega)|exact qL _)) only [go_sem,↓reduceIte,n0,reduceCtorEq,n1,n2,n3,n4,n5,i0,i1,i2,i3,i4,i5,i6,i7,hb1])
    exact RdQ.good hE hb hB hr hs (by omega)

theorem Int32_fn {ok : Blocks} {rb : Nat} {st : St} (w : World) (h : Rdr RT ok w rb st) (hr : ¬ ok rb) (hg : GloBE w) (hrg : ¬ 0 = rb) :
    Fn Tryd.prog 44 #[.pointer (some ⟨rb,0,none⟩)] w (RdQ RT ok rb w (.int .i32 (rdInt .i32 4 st).1) (rdInt .i32 4 st).2) := by
  obtain ⟨v,hb,hB,hn⟩ := h.ex
  obtain ⟨a,c,rfl,hc⟩ := hB.shape
  have hbl := blk_lt hb
  by_cases hf : stLen st < 4
  · have hf2 : (st.getD []).length < 4 := hf
    rw [rdInt,rdN_few hf]
    refine fn_of_W Tryd.func44 rfl Tryd.results44 Tryd.ntmps44 rfl ?_
    repeat ((first | refine qA rfl ?_|apply qB|refine qC rfl ?_|apply qD|apply qE|apply qF|apply qG|apply qH);try simp (maxSteps:=1000000)(disch:=(first|omega|(simp only [qI,qJ,qK]<;>omega)|exact qL _)) only [go_sem,↓reduceIte,n0,reduceCtorEq,n1,n2,n3,n4,n5,i0,i1,i2,i3,i4,i5,i6,i7,hb])
    exact RdQ.bad hb
  · obtain ⟨s,rfl,hs⟩ := st_some hf
    simp only [Option.getD_some,isNone_some_st] at hb hB hc
    rw [rdInt,rdN_some hs]
    simp only [Option.getD_some]
    obtain ⟨xg,hg⟩ := hg
    have hgl := blk_lt hg
    have hz : xg.1.extract 0 0 = #[] := by simp
    refine fn_of_W Tryd.func44 rfl Tryd.results44 Tryd.ntmps44 rfl ?_
    repeat ((first | refine qA rfl ?_|apply qB|refine qC rfl ?_|apply qD|apply qE|apply qF|apply qG|apply qH);try simp (maxSteps:=1000000)(disch:=(first|omega|(simp only [qI,qJ,qK]<;>omega)|exact qL _)) only [go_sem,↓reduceIte,n0,reduceCtorEq,n1,n2,n3,n4,n5,i0,i1,i2,i3,i4,i5,i6,i7,hb,hg,hz])
    refine W.drawR (.take 0 (.take 1 (.take 2 (.take 3 (.take 4 (.only 5 (.take 6 (.only 7 .done)))))))) NoB mixed (by kernel_rfl) ?_
    simp (maxSteps:=1000000)(disch:=(first|omega|(simp only [qI,qJ,qK]<;>omega)|exact qL _)) only [go_sem,↓reduceIte,n0,reduceCtorEq,n1,n2,n3,n4,n5,i0,i1,i2,i3,i4,i5,i6,i7,hb,hg,hz]
    have hEd : Ext w w.drew := (Upd.refl _ _).drew
    refine (BE32_fn (ok := ok) _ s w.drew (hB.keep (hEd.keeps _)) hs).mono ?_
    rintro r5 w1 ⟨rfl,hE1⟩
    have hE := hEd.trans hE1
    have hb1 := hE.blk_some hb id
    refine ⟨hE1,?_⟩
    simp (maxSteps:=1000000)(disch:=(first|omega|(simp only [qI,qJ,qK]<;>omega)|exact qL _)) only [go_sem,↓reduceIte,n0,reduceCtorEq,n1,n2,n3,n4,n5,i0,i1,i2,i3,i4,i5,i6,i7,hb1]
    refine ⟨hE1,?_⟩
    repeat ((first | refine qA rfl ?_|apply qB|refine qC rfl ?_|apply qD|apply qE|apply qF|apply qG|apply qH);try simp (maxSteps:=1000000)(disch:=(first|omega|(simp only [qI,qJ,qK]<;>omega)|exact qL _)) only [go_sem,↓reduceIte,n0,reduceCtorEq,n1,n2,n3,n4,n5,i0,i1,i2,i3,i4,i5,i6,i7,hb1])
    exact RdQ.good hE hb hB hr hs (by omega)

theorem Span_fn {ok : Blocks} {rb : Nat} {st : St} (w : World) (h : Rdr RT ok w rb st) (hr : ¬ ok rb) (l : Int) :
    Fn Tryd.prog 50 #[.pointer (some ⟨rb,0,none⟩),.int .i64 l] w (SpanQ RT ok rb w st (rdSpan l st).2 l (rdSpan l st).1) := by
  obtain ⟨v,hb,hB,hn⟩ := h.ex
  obtain ⟨a,c,rfl,hc⟩ := hB.shape
  have hbl := blk_lt hb
  by_cases hf : l < 0 ∨ (stLen st : Int) < l
  · rw [rdSpan_bad hf]
    by_cases hl : (stLen st : Int) < l
    · have hl2 : ((st.getD []).length : Int) < l := hl
      refine fn_of_W Tryd.func50 rfl Tryd.results50 Tryd.ntmps50 rfl ?_
      repeat ((first | refine qA rfl ?_|apply qB|refine qC rfl ?_|apply qD|apply qE|apply qF|apply qG|apply qH);try simp (maxSteps:=1000000)(disch:=(first|omega|(simp only [qI,qJ,qK]<;>omega)|exact qL _)) only [go_sem,↓reduceIte,n0,reduceCtorEq,n1,n2,n3,n4,n5,i0,i1,i2,i3,i4,i5,i6,i7,hb])
      exact SpanQ.bad hb
    · have hl2 : ¬ ((st.getD []).length : Int) < l := hl
      have hl3 : l < 0 := hf.resolve_right hl
      refine fn_of_W Tryd.func50 rfl Tryd.results50 Tryd.ntmps50 rfl ?_
      repeat ((first | refine qA rfl ?_|apply qB|refine qC rfl ?_|apply qD|apply qE|apply qF|apply qG|apply qH);try simp (maxSteps:=1000000)(disch:=(first|omega|(simp only [qI,qJ,qK]<;>omega)|exact qL _)) only [go_sem,↓reduceIte,n0,reduceCtorEq,n1,n2,n3,n4,n5,i0,i1,i2,i3,i4,i5,i6,i7,hb])
      exact SpanQ.bad hb
  · have hl1 : 0 ≤ l := by omega
    have hl2 : l ≤ ((st.getD []).length : Int) := by have : (st.getD []).length = stLen st := rfl;omega
    obtain ⟨k,rfl⟩ : ∃ k : Nat,l = k := ⟨l.toNat,by omega⟩
    have hk : k ≤ (st.getD []).length := by omega
    have hl3 : ¬ ((st.getD []).length : Int) < (k : Int) := by omega
    have hl4 : ¬ (k : Int) < 0 := by omega
    have hk2 : k ≤ c := by omega
    cases st with
    | none =>
      have := hn rfl
      cases this
      have hk0 : k = 0 := by simpa using hk
      subst hk0
      refine fn_of_W Tryd.func50 rfl Tryd.results50 Tryd.ntmps50 rfl ?_
      repeat ((first | refine qA rfl ?_|apply qB|refine qC rfl ?_|apply qD|apply qE|apply qF|apply qG|apply qH);try simp (maxSteps:=1000000)(disch:=(first|omega|(simp only [qI,qJ,qK]<;>omega)|exact qL _)) only [go_sem,↓reduceIte,n0,reduceCtorEq,n1,n2,n3,n4,n5,i0,i1,i2,i3,i4,i5,i6,i7,hb,Int.toNat_natCast])
      exact SpanQ.zero hb
    | some s =>
      simp only [Option.getD_some,isNone_some_st] at hb hB hc hk hl2 hl3
      rw [rdSpan_good hk]
      refine fn_of_W Tryd.func50 rfl Tryd.results50 Tryd.ntmps50 rfl ?_
      repeat ((first | refine qA rfl ?_|apply qB|refine qC rfl ?_|apply qD|apply qE|apply qF|apply qG|apply qH);try simp (maxSteps:=1000000)(disch:=(first|omega|(simp only [qI,qJ,qK]<;>omega)|exact qL _)) only [go_sem,↓reduceIte,n0,reduceCtorEq,n1,n2,n3,n4,n5,i0,i1,i2,i3,i4,i5,i6,i7,hb,Int.toNat_natCast,Nat.sub_zero])
      exact SpanQ.good hb hB hr hk


theorem RString_fn {ok : Blocks} {rb : Nat} {st : St} (w : World) (h : Rdr RT ok w rb st) (hr : ¬ ok rb) (hg : GloBE w) (hrg : ¬ 0 = rb) :
    Fn Tryd.prog 43 #[.pointer (some ⟨rb,0,none⟩)] w (RdQ RT ok rb w (strV (rdStr false st).1) (rdStr false st).2) := by
  rw [rdStr_f]
  refine fn_of_W Tryd.func43 rfl Tryd.results43 Tryd.ntmps43 rfl ?_
  repeat ((first | refine qA rfl ?_|apply qB|refine qC rfl ?_|apply qD|apply qE|apply qF|apply qG|apply qH);try simp (maxSteps:=1000000)(disch:=(first|omega|(simp only [qI,qJ,qK]<;>omega)|exact qL _)) only [go_sem,↓reduceIte,n0,reduceCtorEq,n1,n2,n3,n4,n5,i0,i1,i2,i3,i4,i5,i6,i7])
  refine (Int16_fn w h hr hg hrg).mono ?_
  rintro _ w1 ⟨rfl,h1,hu1⟩
  have ew := rd16_64 st
  repeat ((first | refine qA rfl ?_|apply qB|refine qC rfl ?_|apply qD|apply qE|apply qF|apply qG|apply qH);try simp (maxSteps:=1000000)(disch:=(first|omega|(simp only [qI,qJ,qK]<;>omega)|exact qL _)) only [go_sem,↓reduceIte,n0,reduceCtorEq,n1,n2,n3,n4,n5,i0,i1,i2,i3,i4,i5,i6,i7,ew])
  refine (Span_fn w1 h1.1 hr _).mono ?_
  rintro r2 w2 ⟨hB2,_,_,h2,hn2,hu2⟩
  obtain ⟨a2,c2,rfl,hc2⟩ := hB2.shape
  try simp (maxSteps:=1000000)(disch:=(first|omega|(simp only [qI,qJ,qK]<;>omega)|exact qL _)) only [go_sem,↓reduceIte,n0,reduceCtorEq,n1,n2,n3,n4,n5,i0,i1,i2,i3,i4,i5,i6,i7]
  refine wp_string (S := 22) (T := 9) (E := 5) (s := _) (ok := ok) (by kernel_rfl) (by kernel_rfl) (by kernel_rfl) (by (try simp (maxSteps:=1000000)(disch:=(first|omega|(simp only [qI,qJ,qK]<;>omega)|exact qL _)) only [go_sem,↓reduceIte,n0,reduceCtorEq,n1,n2,n3,n4,n5,i0,i1,i2,i3,i4,i5,i6,i7]);exact hB2) ?_
  simp (maxSteps:=1000000)(disch:=(first|omega|(simp only [qI,qJ,qK]<;>omega)|exact qL _)) only [go_sem,↓reduceIte,n0,reduceCtorEq,n1,n2,n3,n4,n5,i0,i1,i2,i3,i4,i5,i6,i7]
  repeat ((first | refine qA rfl ?_|apply qB|refine qC rfl ?_|apply qD|apply qE|apply qF|apply qG|apply qH);try simp (maxSteps:=1000000)(disch:=(first|omega|(simp only [qI,qJ,qK]<;>omega)|exact qL _)) only [go_sem,↓reduceIte,n0,reduceCtorEq,n1,n2,n3,n4,n5,i0,i1,i2,i3,i4,i5,i6,i7])
  exact ⟨rfl,⟨h2,hn2 (.inl h1.2)⟩,hu1.trans hu2⟩

theorem RNullableBytes_fn {ok : Blocks} {rb : Nat} {st : St} (w : World) (h : Rdr RT ok w rb st) (hr : ¬ ok rb) (hg : GloBE w) (hrg : ¬ 0 = rb) :
    Fn Tryd.prog 45 #[.pointer (some ⟨rb,0,none⟩)] w fun r w' => OptBytes ok w' r (rdNBytes false st).1.1 (rdNBytes false st).1.2 ∧ RdB RT ok rb w (rdNBytes false st).2 w' := by
  have hrl := h.lt
  unfold rdNBytes
  rw [rdOct_f,rdLen_f]
  refine fn_of_W Tryd.func45 rfl Tryd.results45 Tryd.ntmps45 rfl ?_
  repeat ((first | refine qA rfl ?_|apply qB|refine qC rfl ?_|apply qD|apply qE|apply qF|apply qG|apply qH);try simp (maxSteps:=1000000)(disch:=(first|omega|(simp only [qI,qJ,qK]<;>omega)|exact qL _)) only [go_sem,↓reduceIte,n0,reduceCtorEq,n1,n2,n3,n4,n5,i0,i1,i2,i3,i4,i5,i6,i7])
  refine (Int32_fn w h hr hg hrg).mono ?_
  rintro _ w1 ⟨rfl,h1,hu1⟩
  have ew := rd32_64 st
  by_cases hl : (rdInt .i32 4 st).1 < 0
  · rw [if_pos hl]
    repeat ((first | refine qA rfl ?_|apply qB|refine qC rfl ?_|apply qD|apply qE|apply qF|apply qG|apply qH);try simp (maxSteps:=1000000)(disch:=(first|omega|(simp only [qI,qJ,qK]<;>omega)|exact qL _)) only [go_sem,↓reduceIte,n0,reduceCtorEq,n1,n2,n3,n4,n5,i0,i1,i2,i3,i4,i5,i6,i7,ew])
    exact ⟨rfl,h1,hu1⟩
  · rw [if_neg hl]
    repeat ((first | refine qA rfl ?_|apply qB|refine qC rfl ?_|apply qD|apply qE|apply qF|apply qG|apply qH);try simp (maxSteps:=1000000)(disch:=(first|omega|(simp only [qI,qJ,qK]<;>omega)|exact qL _)) only [go_sem,↓reduceIte,n0,reduceCtorEq,n1,n2,n3,n4,n5,i0,i1,i2,i3,i4,i5,i6,i7,ew])
    refine (Span_fn w1 h1.1 hr _).mono ?_
    rintro r2 w2 ⟨hB2,hb2,hs2,h2,hn2,hu2⟩
    repeat ((first | refine qA rfl ?_|apply qB|refine qC rfl ?_|apply qD|apply qE|apply qF|apply qG|apply qH);try simp (maxSteps:=1000000)(disch:=(first|omega|(simp only [qI,qJ,qK]<;>omega)|exact qL _)) only [go_sem,↓reduceIte,n0,reduceCtorEq,n1,n2,n3,n4,n5,i0,i1,i2,i3,i4,i5,i6,i7])
    refine ⟨?_,⟨h2,hn2 (.inl h1.2)⟩,hu1.trans hu2⟩
    unfold OptBytes
    split
    · rename_i hn;exact hb2 (Option.isNone_iff_eq_none.1 hn)
    · rename_i hn;exact ⟨hB2,hs2 (.inl h1.2) fun h0 => hn (by simp only [h0];rfl)⟩

theorem RArrayLen_fn {ok : Blocks} {rb : Nat} {st : St} (w : World) (h : Rdr RT ok w rb st) (hr : ¬ ok rb) (hg : GloBE w) (hrg : ¬ 0 = rb) :
    Fn Tryd.prog 38 #[.pointer (some ⟨rb,0,none⟩)] w (RdQ RT ok rb w (.int .i32 (rdALen false st).1) (rdALen false st).2) := by
  unfold rdALen
  rw [rdCnt_f]
  refine fn_of_W Tryd.func38 rfl Tryd.results38 Tryd.ntmps38 rfl ?_
  repeat ((first | refine qA rfl ?_|apply qB|refine qC rfl ?_|apply qD|apply qE|apply qF|apply qG|apply qH);try simp (maxSteps:=1000000)(disch:=(first|omega|(simp only [qI,qJ,qK]<;>omega)|exact qL _)) only [go_sem,↓reduceIte,n0,reduceCtorEq,n1,n2,n3,n4,n5,i0,i1,i2,i3,i4,i5,i6,i7])
  refine (Int32_fn w h hr hg hrg).mono ?_
  rintro _ w1 ⟨rfl,h1,hu1⟩
  have ew := rd32_64 st
  obtain ⟨v1,hb1,hB1,hm1⟩ := h1.1.ex
  obtain ⟨a1,c1,rfl,hc1⟩ := hB1.shape
  have hlen : ((rdInt .i32 4 st).2.getD []).length = stLen (rdInt .i32 4 st).2 := rfl
  by_cases hl : (stLen (rdInt .i32 4 st).2 : Int) < (rdInt .i32 4 st).1
  · have hl2 : (((rdInt .i32 4 st).2.getD []).length : Int) < (rdInt .i32 4 st).1 := hl
    simp only [if_pos hl]
    repeat ((first | refine qA rfl ?_|apply qB|refine qC rfl ?_|apply qD|apply qE|apply qF|apply qG|apply qH);try simp (maxSteps:=1000000)(disch:=(first|omega|(simp only [qI,qJ,qK]<;>omega)|exact qL _)) only [go_sem,↓reduceIte,n0,reduceCtorEq,n1,n2,n3,n4,n5,i0,i1,i2,i3,i4,i5,i6,i7,hb1,ew,hl2])
    exact RdQ.then hu1 (RdQ.bad hb1)
  · have hl2 : ¬ (((rdInt .i32 4 st).2.getD []).length : Int) < (rdInt .i32 4 st).1 := hl
    simp only [if_neg hl]
    repeat ((first | refine qA rfl ?_|apply qB|refine qC rfl ?_|apply qD|apply qE|apply qF|apply qG|apply qH);try simp (maxSteps:=1000000)(disch:=(first|omega|(simp only [qI,qJ,qK]<;>omega)|exact qL _)) only [go_sem,↓reduceIte,n0,reduceCtorEq,n1,n2,n3,n4,n5,i0,i1,i2,i3,i4,i5,i6,i7,hb1,ew,hl2])
    exact ⟨rfl,h1,hu1⟩

def GloErr (w : World) (ev : Value) : Prop := ∃ x,blk w 1 = some x ∧ x.1[0]? = some ev
theorem RComplete_fn {ok : Blocks} {rb : Nat} {st : St} {ev : Value} (w : World) (h : Rdr RT ok w rb st) (hg : GloErr w ev) :
    Fn Tryd.prog 40 #[.pointer (some ⟨rb,0,none⟩)] w fun r w' => r = errV ev st ∧ w' = w := by
  obtain ⟨v,hb,hB,hn⟩ := h.ex
  obtain ⟨xg,hxg,hev⟩ := hg
  refine fn_of_W Tryd.func40 rfl Tryd.results40 Tryd.ntmps40 rfl ?_
  unfold errV
  cases st with
  | none =>
    have hb' : blk w rb = some (#[v,.bool true],RT,(0,0)) := hb
    repeat ((first | refine qA rfl ?_|apply qB|refine qC rfl ?_|apply qD|apply qE|apply qF|apply qG|apply qH);try simp (maxSteps:=1000000)(disch:=(first|omega|(simp only [qI,qJ,qK]<;>omega)|exact qL _)) only [go_sem,↓reduceIte,n0,reduceCtorEq,n1,n2,n3,n4,n5,i0,i1,i2,i3,i4,i5,i6,i7,hb',hxg,hev])
    all_goals rfl
  | some s =>
    have hb' : blk w rb = some (#[v,.bool false],RT,(0,0)) := hb
    repeat ((first | refine qA rfl ?_|apply qB|refine qC rfl ?_|apply qD|apply qE|apply qF|apply qG|apply qH);try simp (maxSteps:=1000000)(disch:=(first|omega|(simp only [qI,qJ,qK]<;>omega)|exact qL _)) only [go_sem,↓reduceIte,n0,reduceCtorEq,n1,n2,n3,n4,n5,i0,i1,i2,i3,i4,i5,i6,i7,hb',hxg,hev])
    all_goals rfl

theorem ROk_fn {ok : Blocks} {rb : Nat} {st : St} (w : World) (h : Rdr RT ok w rb st) :
    Fn Tryd.prog 39 #[.pointer (some ⟨rb,0,none⟩)] w fun r w' => r = .bool st.isSome ∧ w' = w := by
  obtain ⟨v,hb,hB,hn⟩ := h.ex
  refine fn_of_W Tryd.func39 rfl Tryd.results39 Tryd.ntmps39 rfl ?_
  cases st with
  | none =>
    have hb' : blk w rb = some (#[v,.bool true],RT,(0,0)) := hb
    repeat ((first | refine qA rfl ?_|apply qB|refine qC rfl ?_|apply qD|apply qE|apply qF|apply qG|apply qH);try simp (maxSteps:=1000000)(disch:=(first|omega|(simp only [qI,qJ,qK]<;>omega)|exact qL _)) only [go_sem,↓reduceIte,n0,reduceCtorEq,n1,n2,n3,n4,n5,i0,i1,i2,i3,i4,i5,i6,i7,hb'])
    all_goals rfl
  | some s =>
    have hb' : blk w rb = some (#[v,.bool false],RT,(0,0)) := hb
    repeat ((first | refine qA rfl ?_|apply qB|refine qC rfl ?_|apply qD|apply qE|apply qF|apply qG|apply qH);try simp (maxSteps:=1000000)(disch:=(first|omega|(simp only [qI,qJ,qK]<;>omega)|exact qL _)) only [go_sem,↓reduceIte,n0,reduceCtorEq,n1,n2,n3,n4,n5,i0,i1,i2,i3,i4,i5,i6,i7,hb'])
    all_goals rfl
end Ms

