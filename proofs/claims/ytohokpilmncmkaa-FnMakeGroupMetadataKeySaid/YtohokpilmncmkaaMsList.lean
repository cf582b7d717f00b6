/- Tags put in by rising numbers: plain lists. -/
import Derived.Test.YtohokpilmncmkaaMsOwn
set_option linter.unusedSimpArgs false
set_option linter.unusedVariables false
namespace Ms
open Go

theorem insTag_out {K : Nat} {out : List TagD} {t : TagD} {i : Nat} (hi : i ≤ out.length) (hlo : ∀ j (hj : j < out.length), j < i → out[j].1 < t.1) (hhi : ∀ hi : i < out.length, t.1 ≤ out[i].1)
    (h : t.1 < K ∨ ∃ hi : i < out.length, out[i].1 = t.1) : insTag K out t = out := by
  have hw := while_at (p := fun x : TagD => decide (x.1 < t.1)) hi (fun j hj hji => by simpa using hlo j hj hji) (fun hi => by simpa using hhi hi)
  rw [insTag, if_pos]
  rw [hw.2]
  rcases h with h | ⟨h1, h2⟩
  · exact .inl h
  · right
    rw [List.head?_drop, List.getElem?_eq_getElem h1, Option.map_some, h2]
theorem insTag_in {K : Nat} {out : List TagD} {t : TagD} {i : Nat} (hi : i ≤ out.length) (hlo : ∀ j (hj : j < out.length), j < i → out[j].1 < t.1) (hhi : ∀ hi : i < out.length, t.1 ≤ out[i].1)
    (h : ¬ t.1 < K) (h' : ∀ hi : i < out.length, out[i].1 ≠ t.1) : insTag K out t = out.take i ++ t :: out.drop i := by
  have hw := while_at (p := fun x : TagD => decide (x.1 < t.1)) hi (fun j hj hji => by simpa using hlo j hj hji) (fun hi => by simpa using hhi hi)
  rw [insTag, if_neg, hw.1, hw.2]
  rw [hw.2]
  rintro (h1 | h1)
  · exact h h1
  · rw [List.head?_drop] at h1
    rcases Nat.lt_or_ge i out.length with h2 | h2
    · rw [List.getElem?_eq_getElem h2, Option.map_some] at h1
      exact h' h2 (by simpa using h1)
    · rw [List.getElem?_eq_none h2] at h1; simp at h1

theorem cellsAt_two (a b : Value) : cellsAt #[a, b] 0 2 = some (.agg #[a, b]) := by simp [cellsAt]
theorem cellsAt_five (a b c d e : Value) : cellsAt #[a, b, c, d, e] 0 5 = some (.agg #[a, b, c, d, e]) := by simp [cellsAt]
theorem cellsAt_eight (a b c d e f g h : Value) : cellsAt #[a, b, c, d, e, f, g, h] 0 8 = some (.agg #[a, b, c, d, e, f, g, h]) := by simp [cellsAt]
theorem shift_set {α : Type} {l : List α} {k : Nat} (hk : k < l.length) (c : α) : (l.take (k + 1) ++ c :: l.drop (k + 1)).set (k + 1) l[k] = l.take k ++ l[k] :: l.drop k := by
  have hl : (l.take (k + 1)).length = k + 1 := by simp; omega
  rw [List.set_append_right _ _ (by omega), hl, Nat.sub_self, List.set_cons_zero, List.take_succ_eq_append_getElem hk, List.append_assoc, List.drop_eq_getElem_cons hk]
  rfl
theorem shift_get {α : Type} {l : List α} {k : Nat} (hk : k < l.length) (c : α) (h : k < (l.take (k + 1) ++ c :: l.drop (k + 1)).length) : (l.take (k + 1) ++ c :: l.drop (k + 1))[k] = l[k] := by
  rw [List.getElem_append_left (by simp; omega), List.getElem_take]
theorem shift_in {α : Type} {l : List α} {k : Nat} (hk : k ≤ l.length) (c d : α) : (l.take k ++ c :: l.drop k).set k d = l.take k ++ d :: l.drop k := by
  have hl : (l.take k).length = k := by simp; omega
  rw [List.set_append_right _ _ (by omega), hl, Nat.sub_self, List.set_cons_zero]
theorem shift_len {α : Type} (l : List α) (k : Nat) (c : α) : (l.take k ++ c :: l.drop k).length = l.length + 1 := by
  simp only [List.length_append, List.length_take, List.length_cons, List.length_drop]; omega
theorem All2.insert {α β : Type} {R : α → β → Prop} {xs : List α} {ys : List β} (h : All2 R xs ys) {k : Nat} (hk : k ≤ xs.length) {x : α} {y : β} (hr : R x y) : All2 R (xs.take k ++ x :: xs.drop k) (ys.take k ++ y :: ys.drop k) := by
  obtain ⟨h1, h2⟩ := h
  refine ⟨by rw [shift_len, shift_len, h1], fun i h3 h4 => ?_⟩
  have lx : (xs.take k).length = k := by simp; omega
  have ly : (ys.take k).length = k := by simp; omega
  rw [shift_len] at h3 h4
  rcases Nat.lt_trichotomy i k with h | h | h
  · rw [List.getElem_append_left (by omega), List.getElem_append_left (by omega), List.getElem_take, List.getElem_take]
    exact h2 i (by omega) (by omega)
  · subst h
    rw [List.getElem_append_right (by omega), List.getElem_append_right (by omega)]
    simp only [lx, ly, Nat.sub_self, List.getElem_cons_zero]
    exact hr
  · obtain ⟨m, rfl⟩ : ∃ m, i = k + 1 + m := ⟨i - (k + 1), by omega⟩
    rw [List.getElem_append_right (by omega), List.getElem_append_right (by omega)]
    have e : k + 1 + m - k = m + 1 := by omega
    simp only [lx, ly, e, List.getElem_cons_succ, List.getElem_drop]
    exact h2 (k + m) (by omega) (by omega)
theorem All2.flat_cells {ok : Blocks} {w : World} {ts : List TagD} {css : List (List Value)} (h : All2 (TagC ok w) ts css) : css.flatten.all flat = true := by
  refine all_flatten fun cs hm => ?_
  obtain ⟨i, hi, rfl⟩ := List.getElem_of_mem hm
  obtain ⟨vv, h1, h2, _⟩ := h.2 i (by have := h.1; omega) hi
  rw [h1]
  simp only [List.all_cons, List.all_nil, Bool.and_true]
  have := h2
  obtain ⟨b, c, rfl, _⟩ := h2
  rfl
end Ms
