/- What can be set of a tree ('Fit'), plainly; a tree in memory of which part is new. -/
import Derived.Test.YtohokpilmncmkaaMsAppR
set_option linter.unusedSimpArgs false
set_option linter.unusedVariables false
namespace Ms
open Go

def Tree.setNull (t : Tree) (b : Bool) : Tree := .mk t.n t.s b t.l t.u
def fitOne (ft : List Fld → Int → Tree → Tree) (kind : Int) (sub : List Fld) (null : Bool) (v : Int) (t : Tree) : Tree :=
  if kind = 8 ∨ kind = 9 then .mk 0 (wholeS t.s) null [] []
  else if kind = 10 then (ft sub v t).setNull null
  else .mk t.n t.s false [] []
def fittedS (ft : List Fld → Int → Tree → Tree) (f : Fld) (v : Int) (t : Tree) : Tree :=
  if f.kind = 11 then .mk 0 [] (nullS f v t || (decide (0 ≤ f.tag) && decide (t.l.length = 0))) ((thingsS t.l).map fun x => fitOne ft f.of f.sub false v x) []
  else fitOne ft f.kind f.sub (nullS f v t) v t
def fitU (fs : List Fld) (u : List TagD) : List TagD := (unknownS fs u).map fun u => (u.1, wholeS u.2)
def fitS : Nat → List Fld → Int → Tree → Tree
  | 0, _, _, _ => .zero
  | d + 1, fs, v, t => .mk 0 [] false (fs.zipIdx.map fun (f, i) => fittedS (fitS d) f v (t.at i)) (fitU fs t.u)
def fitL (ft : List Fld → Int → Tree → Tree) (fs : List Fld) (v : Int) (t : Tree) (j : Nat) : List Tree := (fs.take j).zipIdx.map fun x => fittedS ft x.1 v (t.at x.2)
theorem fitL_snoc (ft : List Fld → Int → Tree → Tree) (fs : List Fld) (v : Int) (t : Tree) (j : Nat) (h : j < fs.length) : fitL ft fs v t (j + 1) = fitL ft fs v t j ++ [fittedS ft fs[j] v (t.at j)] := by
  simp only [fitL, zipIdx_snoc fs j h, List.map_append, List.map_cons, List.map_nil]
theorem fitL_len (ft : List Fld → Int → Tree → Tree) (fs : List Fld) (v : Int) (t : Tree) (j : Nat) (h : j ≤ fs.length) : (fitL ft fs v t j).length = j := by
  simp only [fitL, List.length_map, List.length_zipIdx, List.length_take]; omega

theorem Upd.more {S S' : Nat → Prop} {w w1 w2 : World} (h1 : Upd S w w1) (h2 : Upd S' w1 w2) (h : ∀ b, b < w.heap.size → S' b → S b) : Upd S w w2 :=
  ⟨h2.os.trans h1.os, h2.tape.trans h1.tape, h2.output.trans h1.output, Nat.le_trans h1.size h2.size, fun b hb hn => by
    rw [h2.keep b (Nat.lt_of_lt_of_le hb h1.size) (fun hs => hn (h b hb hs)), h1.keep b hb hn]⟩
/-- No list in the tree has more than 32767 elements. -/
inductive Lists : Tree → Prop
  | mk {n : Int} {s : List UInt8} {null : Bool} {l : List Tree} {u : List TagD} (hl : l.length ≤ 32767) (hu : u.length ≤ 32767) (he : ∀ i (h : i < l.length), Lists l[i]) : Lists (.mk n s null l u)
theorem Lists.setNull {t : Tree} (h : Lists t) (b : Bool) : Lists (t.setNull b) := by
  cases h with
  | mk hl hu he => exact .mk hl hu he
theorem Lists.nil (n : Int) (s : List UInt8) (null : Bool) : Lists (.mk n s null [] []) := .mk (by simp) (by simp) (fun i h => by simp at h)
theorem insTag_len' (K : Nat) (out : List TagD) (t : TagD) : (insTag K out t).length ≤ out.length + 1 := by
  unfold insTag
  split
  · omega
  · have := congrArg List.length (List.takeWhile_append_dropWhile (p := fun x : TagD => decide (x.1 < t.1)) (l := out))
    simp only [List.length_append, List.length_cons] at this ⊢; omega
theorem unknownS_len' (fs : List Fld) (l : List TagD) : (unknownS fs l).length ≤ 32767 := by
  have : ∀ (l : List TagD) (out : List TagD), (l.foldl (insTag (knownS fs)) out).length ≤ out.length + l.length := by
    intro l
    induction l with
    | nil => intro out; simp
    | cons t l ih => intro out; have h1 := ih (insTag (knownS fs) out t); have h2 := insTag_len' (knownS fs) out t; simp only [List.foldl_cons, List.length_cons]; omega
  have h := this (l.take 32767) []
  simp only [List.length_nil, List.length_take] at h
  unfold unknownS; omega
theorem fitOne_lists {ft : List Fld → Int → Tree → Tree} (kind : Int) (sub : List Fld) (null : Bool) (v : Int) (t : Tree) (h : kind = 10 → Lists (ft sub v t)) : Lists (fitOne ft kind sub null v t) := by
  unfold fitOne
  split
  · exact Lists.nil _ _ _
  · split
    · rename_i h10; exact (h h10).setNull null
    · exact Lists.nil _ _ _
theorem fitS_lists (d : Nat) : ∀ fs v t, fs.length ≤ 1000 → okF d fs = true → Lists (fitS (d + 1) fs v t) := by
  induction d with
  | zero =>
    intro fs v t _ h
    have hnil : fs = [] := by simpa [okF] using h
    subst hnil
    exact .mk (by simp) (by simp only [fitU, List.length_map]; exact unknownS_len' _ _) (fun i h => by simp at h)
  | succ d ih =>
    intro fs v t hl h
    rw [fitS]
    refine .mk (by simp only [List.length_map, List.length_zipIdx]; omega) (by simp only [fitU, List.length_map]; exact unknownS_len' _ _) fun i hi => ?_
    simp only [List.length_map, List.length_zipIdx] at hi
    simp only [List.getElem_map, List.getElem_zipIdx]
    have hm := List.getElem_mem hi
    rw [okF] at h
    simp only [Bool.and_eq_true, List.all_eq_true, decide_eq_true_eq] at h
    have hsub := (h.2 _ hm).2
    have hlen : fs[i].sub.length ≤ 1000 := by
      cases d with
      | zero => simp only [okF, List.isEmpty_iff] at hsub; rw [hsub]; simp
      | succ d => simp only [okF, Bool.and_eq_true, Nat.ble_eq] at hsub; exact hsub.1
    unfold fittedS
    split
    · refine .mk (by simp only [List.length_map, thingsS, List.length_take]; omega) (by simp) fun k hk => ?_
      simp only [List.getElem_map]
      exact fitOne_lists _ _ _ _ _ fun _ => ih _ _ _ hlen hsub
    · exact fitOne_lists _ _ _ _ _ fun _ => ih _ _ _ hlen hsub
/-- Blocks that were allowed, and new ones. -/
def okN (ok : Blocks) (n : Nat) : Blocks := fun b => ok b ∨ n ≤ b
/-- A slice of trees that grows: its own block is apart from all that the trees hold, and from one block more. -/
structure GrowT (ok : Blocks) (B tb : Nat) (w : World) (T : TypeId) (v : Value) (xs : List Tree) : Prop where
  ex : ∃ css, OwnE B w T 5 v css ∧ All2 (TreeC (fun b => ok b ∧ b ≠ tb ∧ ¬ ownB v b) w) xs css
theorem flat_tree {ok : Blocks} {w : World} {t : Tree} {cs : List Value} (h : TreeC ok w t cs) : cs.all flat = true ∧ cs.length = 5 := by
  obtain ⟨vS, vL, vU, rfl, _, h1, h2, h3⟩ := h.inv
  refine ⟨?_, rfl⟩
  simp only [List.all_cons, h1.flat, SlR.flat h2, SlR.flat h3, flat_int, flat_bool, List.all_nil, Bool.and_self]
theorem all2_flat_tree {ok : Blocks} {w : World} {ts : List Tree} {css : List (List Value)} (h : All2 (TreeC ok w) ts css) : css.flatten.all flat = true := by
  refine all_flatten fun cs hm => ?_
  obtain ⟨i, hi, rfl⟩ := List.getElem_of_mem hm
  exact (flat_tree (h.2 i (by have := h.1; omega) hi)).1
theorem GrowT.nil (ok : Blocks) (B tb : Nat) (w : World) (T : TypeId) : GrowT ok B tb w T (.slice none 0 0) [] :=
  ⟨[], OwnE.nil _ _ _ _, rfl, fun i h => by simp at h⟩
theorem GrowT.shape {ok : Blocks} {B tb : Nat} {w : World} {T : TypeId} {v : Value} {xs : List Tree} (h : GrowT ok B tb w T v xs) : ∃ a c, v = .slice a xs.length c ∧ xs.length ≤ c := by
  obtain ⟨css, h1, h2⟩ := h.ex
  obtain ⟨a, c, h3, h4⟩ := h1.shape
  rw [← h2.1] at h3 h4
  exact ⟨a, c, h3, h4⟩
theorem GrowT.above {ok : Blocks} {B tb : Nat} {w : World} {T : TypeId} {v : Value} {xs : List Tree} (h : GrowT ok B tb w T v xs) {b : Nat} (hb : ownB v b) : B ≤ b := by
  obtain ⟨css, h1, h2⟩ := h.ex; exact Own.above h1.1 hb
theorem GrowT.below {ok : Blocks} {B tb : Nat} {w : World} {T : TypeId} {v : Value} {xs : List Tree} (h : GrowT ok B tb w T v xs) {b : Nat} (hb : ownB v b) : b < w.heap.size := by
  obtain ⟨css, h1, h2⟩ := h.ex; exact Own.below h1.1 hb
theorem GrowT.upd {ok : Blocks} {B tb : Nat} {w w' : World} {T : TypeId} {v : Value} {xs : List Tree} (h : GrowT ok B tb w T v xs) (u : Upd (fun b => b = tb) w w') (ht : ¬ ownB v tb) : GrowT ok B tb w' T v xs := by
  obtain ⟨css, h1, h2⟩ := h.ex
  exact ⟨css, h1.upd u (fun b hb e => ht (e ▸ hb)), h2.imp fun _ _ h => h.keep (u.keeps fun b _ hk e => hk.2.1 e)⟩
theorem GrowT.ext {ok : Blocks} {B tb : Nat} {w w' : World} {T : TypeId} {v : Value} {xs : List Tree} (h : GrowT ok B tb w T v xs) (u : Ext w w') : GrowT ok B tb w' T v xs := by
  obtain ⟨css, h1, h2⟩ := h.ex
  exact ⟨css, h1.upd u (fun _ _ h => h), h2.imp fun _ _ h => h.keep (u.keeps _)⟩
/-- What an append gives. -/
theorem GrowT.snoc {ok : Blocks} {B tb : Nat} {w w' : World} {T : TypeId} {v v' : Value} {xs : List Tree} {x : Tree} {cs : List Value} {css : List (List Value)} (h1 : OwnE B w T 5 v css)
    (h2 : All2 (TreeC (fun b => ok b ∧ b ≠ tb ∧ ¬ ownB v b) w) xs css) (hx : TreeC (fun b => ok b ∧ b ≠ tb ∧ ¬ ownB v b) w x cs) (hu : Upd (ownB v) w w') (hf : ∀ b, ownB v' b → ownB v b ∨ w.heap.size ≤ b)
    (ho : Own B w' T 5 v' (css.length + 1) (css.flatten ++ cs)) : GrowT ok B tb w' T v' (xs ++ [x]) := by
  have key : ∀ t c, TreeC (fun b => ok b ∧ b ≠ tb ∧ ¬ ownB v b) w t c → TreeC (fun b => ok b ∧ b ≠ tb ∧ ¬ ownB v' b) w' t c := fun t c hc => by
    have hk : TreeC (fun b => (ok b ∧ b ≠ tb ∧ ¬ ownB v' b) ∧ ¬ ownB v b) w t c := hc.weaken fun b hb hk => ⟨⟨hk.1, hk.2.1, fun h => (hf b h).elim hk.2.2 (fun h => by omega)⟩, hk.2.2⟩
    exact (hk.keep (hu.keeps fun b _ hk => hk.2)).weaken fun b _ hk => hk.1
  refine ⟨css ++ [cs], OwnE.snoc h1.2 (flat_tree hx).2 ho rfl, by simp [h2.1], fun i h3 h4 => ?_⟩
  simp only [List.length_append, List.length_cons, List.length_nil] at h3 h4
  have h5 := h2.1
  by_cases hi : i < xs.length
  · rw [List.getElem_append_left hi, List.getElem_append_left (by omega)]
    exact key _ _ (h2.2 i hi (by omega))
  · have : i = xs.length := by omega
    subst this
    rw [List.getElem_append_right (Nat.le_refl _), List.getElem_append_right (by omega)]
    simp only [Nat.sub_self, List.getElem_cons_zero, h5]
    exact key _ _ hx
theorem GrowT.trees {ok : Blocks} {B tb : Nat} {w : World} {T : TypeId} {v : Value} {xs : List Tree} (h : GrowT ok B tb w T v xs) {ok' : Blocks} (h1 : ∀ b, b < w.heap.size → ok b → ok' b) (h2 : ∀ b, B ≤ b → ok' b) : TreesV ok' w v xs := by
  obtain ⟨css, h3, h4⟩ := h.ex
  exact ⟨css, h3.sl fun b hb => h2 b (Own.above h3.1 hb), h4.imp fun _ _ h => h.weaken fun b hb hk => h1 b hb hk.1⟩

/-- The same of tags. -/
structure GrowU (ok : Blocks) (B tb : Nat) (w : World) (T : TypeId) (v : Value) (xs : List TagD) : Prop where
  ex : ∃ css, OwnE B w T 2 v css ∧ All2 (TagC (fun b => ok b ∧ b ≠ tb ∧ ¬ ownB v b) w) xs css
theorem flat_tag {ok : Blocks} {w : World} {t : TagD} {cs : List Value} (h : TagC ok w t cs) : cs.all flat = true ∧ cs.length = 2 := by
  obtain ⟨vv, rfl, h1, _⟩ := h
  refine ⟨?_, rfl⟩
  simp only [List.all_cons, h1.flat, flat_int, List.all_nil, Bool.and_self]
theorem GrowU.nil (ok : Blocks) (B tb : Nat) (w : World) (T : TypeId) : GrowU ok B tb w T (.slice none 0 0) [] :=
  ⟨[], OwnE.nil _ _ _ _, rfl, fun i h => by simp at h⟩
theorem GrowU.shape {ok : Blocks} {B tb : Nat} {w : World} {T : TypeId} {v : Value} {xs : List TagD} (h : GrowU ok B tb w T v xs) : ∃ a c, v = .slice a xs.length c ∧ xs.length ≤ c := by
  obtain ⟨css, h1, h2⟩ := h.ex
  obtain ⟨a, c, h3, h4⟩ := h1.shape
  rw [← h2.1] at h3 h4
  exact ⟨a, c, h3, h4⟩
theorem GrowU.above {ok : Blocks} {B tb : Nat} {w : World} {T : TypeId} {v : Value} {xs : List TagD} (h : GrowU ok B tb w T v xs) {b : Nat} (hb : ownB v b) : B ≤ b := by
  obtain ⟨css, h1, h2⟩ := h.ex; exact Own.above h1.1 hb
theorem GrowU.below {ok : Blocks} {B tb : Nat} {w : World} {T : TypeId} {v : Value} {xs : List TagD} (h : GrowU ok B tb w T v xs) {b : Nat} (hb : ownB v b) : b < w.heap.size := by
  obtain ⟨css, h1, h2⟩ := h.ex; exact Own.below h1.1 hb
theorem GrowU.upd {ok : Blocks} {B tb : Nat} {w w' : World} {T : TypeId} {v : Value} {xs : List TagD} (h : GrowU ok B tb w T v xs) (u : Upd (fun b => b = tb) w w') (ht : ¬ ownB v tb) : GrowU ok B tb w' T v xs := by
  obtain ⟨css, h1, h2⟩ := h.ex
  exact ⟨css, h1.upd u (fun b hb e => ht (e ▸ hb)), h2.imp fun _ _ h => h.keep (u.keeps fun b _ hk e => hk.2.1 e)⟩
theorem GrowU.ext {ok : Blocks} {B tb : Nat} {w w' : World} {T : TypeId} {v : Value} {xs : List TagD} (h : GrowU ok B tb w T v xs) (u : Ext w w') : GrowU ok B tb w' T v xs := by
  obtain ⟨css, h1, h2⟩ := h.ex
  exact ⟨css, h1.upd u (fun _ _ h => h), h2.imp fun _ _ h => h.keep (u.keeps _)⟩
theorem GrowU.snoc {ok : Blocks} {B tb : Nat} {w w' : World} {T : TypeId} {v v' : Value} {xs : List TagD} {x : TagD} {cs : List Value} {css : List (List Value)} (h1 : OwnE B w T 2 v css)
    (h2 : All2 (TagC (fun b => ok b ∧ b ≠ tb ∧ ¬ ownB v b) w) xs css) (hx : TagC (fun b => ok b ∧ b ≠ tb ∧ ¬ ownB v b) w x cs) (hu : Upd (ownB v) w w') (hf : ∀ b, ownB v' b → ownB v b ∨ w.heap.size ≤ b)
    (ho : Own B w' T 2 v' (css.length + 1) (css.flatten ++ cs)) : GrowU ok B tb w' T v' (xs ++ [x]) := by
  have key : ∀ t c, TagC (fun b => ok b ∧ b ≠ tb ∧ ¬ ownB v b) w t c → TagC (fun b => ok b ∧ b ≠ tb ∧ ¬ ownB v' b) w' t c := fun t c hc => by
    have hk : TagC (fun b => (ok b ∧ b ≠ tb ∧ ¬ ownB v' b) ∧ ¬ ownB v b) w t c := hc.weaken fun b hb hk => ⟨⟨hk.1, hk.2.1, fun h => (hf b h).elim hk.2.2 (fun h => by omega)⟩, hk.2.2⟩
    exact (hk.keep (hu.keeps fun b _ hk => hk.2)).weaken fun b _ hk => hk.1
  refine ⟨css ++ [cs], OwnE.snoc h1.2 (flat_tag hx).2 ho rfl, by simp [h2.1], fun i h3 h4 => ?_⟩
  simp only [List.length_append, List.length_cons, List.length_nil] at h3 h4
  have h5 := h2.1
  by_cases hi : i < xs.length
  · rw [List.getElem_append_left hi, List.getElem_append_left (by omega)]
    exact key _ _ (h2.2 i hi (by omega))
  · have : i = xs.length := by omega
    subst this
    rw [List.getElem_append_right (Nat.le_refl _), List.getElem_append_right (by omega)]
    simp only [Nat.sub_self, List.getElem_cons_zero, h5]
    exact key _ _ hx
theorem GrowU.tags {ok : Blocks} {B tb : Nat} {w : World} {T : TypeId} {v : Value} {xs : List TagD} (h : GrowU ok B tb w T v xs) {ok' : Blocks} (h1 : ∀ b, b < w.heap.size → ok b → ok' b) (h2 : ∀ b, B ≤ b → ok' b) : TagsV ok' w v xs := by
  obtain ⟨css, h3, h4⟩ := h.ex
  exact ⟨css, h3.sl fun b hb => h2 b (Own.above h3.1 hb), h4.imp fun _ _ h => h.weaken fun b hb hk => h1 b hb hk.1⟩
end Ms
