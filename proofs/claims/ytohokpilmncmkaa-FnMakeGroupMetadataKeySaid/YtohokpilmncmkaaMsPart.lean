/- The plain law of 'part': what its loops have written so far. -/
import Derived.Test.YtohokpilmncmkaaMsMake
set_option linter.unusedSimpArgs false
set_option linter.unusedVariables false
namespace Ms
open Go

/-! ### The plain law of 'part' -/
theorem okF_mono (d : Nat) : ∀ fs, okF d fs = true → okF (d + 1) fs = true := by
  induction d with
  | zero =>
    intro fs h
    simp only [okF, List.isEmpty_iff] at h
    subst h; rfl
  | succ d ih =>
    intro fs h
    rw [okF] at h ⊢
    simp only [Bool.and_eq_true, List.all_eq_true] at h ⊢
    exact ⟨h.1, fun f hf => ⟨(h.2 f hf).1, ih _ (h.2 f hf).2⟩⟩

def plainF (pt : List Fld → Int → Bool → Tree → List UInt8) (v : Int) (flex : Bool) (t : Tree) (x : Fld × Nat) : List UInt8 := if x.1.tag < 0 ∧ hasS x.1 v = true then fieldS pt x.1 v flex (t.at x.2) else []
def plainP (pt : List Fld → Int → Bool → Tree → List UInt8) (fs : List Fld) (v : Int) (flex : Bool) (t : Tree) (j : Nat) : List UInt8 := (fs.take j).zipIdx.flatMap (plainF pt v flex t)
theorem plainP_all (pt : List Fld → Int → Bool → Tree → List UInt8) (fs : List Fld) (v : Int) (flex : Bool) (t : Tree) : plainP pt fs v flex t fs.length = plainS pt fs v flex t := by
  rw [plainP, List.take_length]; rfl
theorem zipIdx_snoc {α : Type} (l : List α) (j : Nat) (h : j < l.length) : (l.take (j + 1)).zipIdx = (l.take j).zipIdx ++ [(l[j], j)] := by
  rw [List.take_succ_eq_append_getElem h, List.zipIdx_append]
  have : (l.take j).length = j := by simp; omega
  simp [this]
theorem plainP_snoc (pt : List Fld → Int → Bool → Tree → List UInt8) (fs : List Fld) (v : Int) (flex : Bool) (t : Tree) (j : Nat) (h : j < fs.length) : plainP pt fs v flex t (j + 1) = plainP pt fs v flex t j ++ plainF pt v flex t (fs[j], j) := by
  simp only [plainP, zipIdx_snoc fs j h, List.flatMap_append, List.flatMap_cons, List.flatMap_nil, List.append_nil]
theorem plainP_le (pt : List Fld → Int → Bool → Tree → List UInt8) (fs : List Fld) (v : Int) (flex : Bool) (t : Tree) (j : Nat) : (plainP pt fs v flex t j).length ≤ (plainS pt fs v flex t).length := by
  have : (plainS pt fs v flex t) = (plainP pt fs v flex t j) ++ ((fs.drop j).zipIdx (0 + (fs.take j).length)).flatMap (plainF pt v flex t) := by
    rw [plainP, ← List.flatMap_append, ← List.zipIdx_append, List.take_append_drop]; rfl
  rw [this, List.length_append]; omega

def tagF (pt : List Fld → Int → Bool → Tree → List UInt8) (d : Nat) (v : Int) (flex : Bool) (t : Tree) (k : Nat) (x : Fld × Nat) : Option TagD := if x.1.tag = k ∧ usualS d x.1 (t.at x.2) = false then some (k, fieldS pt x.1 v flex (t.at x.2)) else none
def tagsP (pt : List Fld → Int → Bool → Tree → List UInt8) (d : Nat) (fs : List Fld) (v : Int) (flex : Bool) (t : Tree) (k j : Nat) : List TagD :=
  ((List.range k).flatMap fun k => fs.zipIdx.filterMap (tagF pt d v flex t k)) ++ (fs.take j).zipIdx.filterMap (tagF pt d v flex t k)
theorem tagsP_all (pt : List Fld → Int → Bool → Tree → List UInt8) (d : Nat) (fs : List Fld) (v : Int) (flex : Bool) (t : Tree) : tagsP pt d fs v flex t (knownS fs) 0 = tagsS pt d fs v flex t := by
  simp only [tagsP, List.take_zero, List.zipIdx_nil, List.filterMap_nil, List.append_nil]; rfl
theorem tagsP_next (pt : List Fld → Int → Bool → Tree → List UInt8) (d : Nat) (fs : List Fld) (v : Int) (flex : Bool) (t : Tree) (k : Nat) : tagsP pt d fs v flex t k fs.length = tagsP pt d fs v flex t (k + 1) 0 := by
  simp only [tagsP, List.take_length, List.take_zero, List.zipIdx_nil, List.filterMap_nil, List.append_nil, List.range_succ, List.flatMap_append, List.flatMap_cons, List.flatMap_nil]
theorem tagsP_snoc (pt : List Fld → Int → Bool → Tree → List UInt8) (d : Nat) (fs : List Fld) (v : Int) (flex : Bool) (t : Tree) (k j : Nat) (h : j < fs.length) :
    tagsP pt d fs v flex t k (j + 1) = tagsP pt d fs v flex t k j ++ (tagF pt d v flex t k (fs[j], j)).toList := by
  simp only [tagsP, zipIdx_snoc fs j h, List.filterMap_append, List.append_assoc]
  congr 2
theorem tagsP_pre (pt : List Fld → Int → Bool → Tree → List UInt8) (d : Nat) (fs : List Fld) (v : Int) (flex : Bool) (t : Tree) (k j : Nat) (hk : k < knownS fs) : ∃ r, tagsS pt d fs v flex t = tagsP pt d fs v flex t k j ++ r := by
  have h1 : ∃ r, fs.zipIdx.filterMap (tagF pt d v flex t k) = (fs.take j).zipIdx.filterMap (tagF pt d v flex t k) ++ r :=
    ⟨((fs.drop j).zipIdx (0 + (fs.take j).length)).filterMap (tagF pt d v flex t k), by rw [← List.filterMap_append, ← List.zipIdx_append, List.take_append_drop]⟩
  obtain ⟨r, h1⟩ := h1
  have h2 : ∀ n, ∃ r, (List.range (k + 1 + n)).flatMap (fun k => fs.zipIdx.filterMap (tagF pt d v flex t k)) = tagsP pt d fs v flex t k j ++ r := by
    intro n
    induction n with
    | zero =>
      refine ⟨r, ?_⟩
      simp only [Nat.add_zero, List.range_succ, List.flatMap_append, List.flatMap_cons, List.flatMap_nil, List.append_nil, tagsP, h1, List.append_assoc]
    | succ n ih =>
      obtain ⟨r, ih⟩ := ih
      rw [← Nat.add_assoc, List.range_succ, List.flatMap_append, ih, List.append_assoc]
      exact ⟨_, rfl⟩
  obtain ⟨r2, h2⟩ := h2 (knownS fs - (k + 1))
  rw [show k + 1 + (knownS fs - (k + 1)) = knownS fs by omega] at h2
  exact ⟨r2, h2⟩

def unkT (u : TagD) : List UInt8 := oneTag (u.1, wholeS u.2)
def partT (pt : List Fld → Int → Bool → Tree → List UInt8) (du : Nat) (fs : List Fld) (v : Int) (flex : Bool) (t : Tree) : List UInt8 :=
  if flex = true then
    plainS pt fs v flex t ++
      (uvarS ((tagsS pt du fs v flex t).length + (unknownS fs t.u).length) ++
        ((tagsS pt du fs v flex t).flatMap oneTag ++ (unknownS fs t.u).flatMap unkT))
  else plainS pt fs v flex t
theorem oneTag_many (l : List TagD) : l.length ≤ (l.flatMap oneTag).length := by
  induction l with
  | nil => simp
  | cons u l ih => simp only [List.flatMap_cons, List.length_append, List.length_cons, oneTag]; have := uvarS_pos u.1; omega
theorem FldC.weaken {ok ok' : Blocks} {w : World} (k : ∀ b, b < w.heap.size → ok b → ok' b) {t : Fld} {cs : List Value} (h : FldC ok w t cs) : FldC ok' w t cs := by
  induction h with
  | mk hs hl he ih => exact .mk (hs.weaken k) hl (fun i h1 h2 => ih i h1 h2)
theorem FldsV.weaken {ok ok' : Blocks} {w : World} {v : Value} {l : List Fld} (h : FldsV ok w v l) (k : ∀ b, b < w.heap.size → ok b → ok' b) : FldsV ok' w v l := by
  obtain ⟨css, h1, h2⟩ := h; exact ⟨css, h1.weaken k, h2.imp fun _ _ h => h.weaken k⟩
theorem partS_eq (d : Nat) (fs : List Fld) (v : Int) (flex : Bool) (t : Tree) : partS (d + 1) fs v flex t = partT (partS d) (d + 1) fs v flex t := rfl
end Ms
