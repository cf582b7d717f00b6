/- An own slice's elements: read, written. -/
import Derived.Test.YtohokpilmncmkaaMsGet
import Derived.Test.YtohokpilmncmkaaMsNum
set_option linter.unusedSimpArgs false
set_option linter.unusedVariables false
namespace Ms
open Go Go.RowKit

def Css (size : Nat) (css : List (List Value)) : Prop := ∀ cs ∈ css, cs.length = size

/-- An own slice of elements. -/
def OwnE (B : Nat) (w : World) (E : TypeId) (size : Nat) (v : Value) (css : List (List Value)) : Prop := Own B w E size v css.length css.flatten ∧ Css size css

theorem thaw_of {fr : Nat × Nat} {o n m : Nat} (h : thaw fr 0 m = true) (hl : o + n ≤ m) : thaw fr o n = true := by
  simp only [thaw, Bool.or_eq_true, Nat.ble_eq] at h ⊢
  omega
theorem OwnE.view {B : Nat} {w : World} {E : TypeId} {size : Nat} {v : Value} {css : List (List Value)} (h : OwnE B w E size v css) (hp : 0 < css.length) :
    ∃ g cap x, v = .slice (some ⟨g, 0, none⟩) css.length cap ∧ css.length ≤ cap ∧ B ≤ g ∧ g < w.heap.size ∧ blk w g = some x ∧
      (∀ i, i < css.length → i * size + size ≤ x.1.size ∧ thaw x.2.2 (i * size) size = true) ∧
      (∀ i (hi : i < css.length), x.1.extract (i * size) (i * size + size) = (css[i]).toArray) ∧
      (∀ i (hi : i < css.length) j, j < size → x.1[i * size + j]? = (css[i])[j]?) := by
  obtain ⟨⟨h0, h1⟩, hc⟩ := h
  rcases h1 with ⟨_, h1⟩ | ⟨g, cap, rest, fr, h1, h2, h3, h4, h5, h6⟩
  · omega
  · have hlen := flatten_len hc
    have key : ∀ i (hi : i < css.length) j, j < size → (css.flatten ++ rest).toArray[i * size + j]? = (css[i])[j]? := by
      intro i hi j hj
      have hm : (i + 1) * size ≤ css.length * size := Nat.mul_le_mul_right _ hi
      rw [Nat.succ_mul] at hm
      have hlt : i * size + j < css.flatten.length := by omega
      simp only [List.getElem?_toArray, List.getElem?_append, hlt, if_true]
      exact flatten_get hc i hi j hj
    refine ⟨g, cap, _, h1, h6, h2, blk_lt h3, h3, fun i hi => ?_, fun i hi => ?_, key⟩
    · have hm : (i + 1) * size ≤ css.length * size := Nat.mul_le_mul_right _ hi
      have hm2 : css.length * size ≤ cap * size := Nat.mul_le_mul_right _ h6
      rw [Nat.succ_mul] at hm
      refine ⟨?_, thaw_of h5 (by omega)⟩
      simp only [List.size_toArray, List.length_append]; omega
    · have hm : (i + 1) * size ≤ css.length * size := Nat.mul_le_mul_right _ hi
      rw [Nat.succ_mul] at hm
      have hci : (css[i]).length = size := hc _ (List.getElem_mem hi)
      apply Array.ext_getElem?
      intro j
      by_cases hj : j < size
      · have := key i hi j hj
        simp only [Array.getElem?_extract, List.getElem?_toArray]
        rw [← this]
        simp only [List.getElem?_toArray]
        simp only [Array.size_extract, List.size_toArray, List.length_append]
        rw [if_pos (by omega)]
      · have h1 : (css[i]).toArray[j]? = none := by simp [hci]; omega
        rw [h1]
        simp; omega
theorem OwnE.set {B : Nat} {w : World} {E : TypeId} {size g n cap : Nat} {css : List (List Value)} (h : OwnE B w E size (.slice (some ⟨g, 0, none⟩) n cap) css) {i : Nat} (hi : i < css.length) {c : List Value} (hcl : c.length = size) :
    OwnE B (wr w g (i * size) c) E size (.slice (some ⟨g, 0, none⟩) n cap) (css.set i c) := by
  obtain ⟨⟨h0, h1⟩, hc⟩ := h
  have hc' : Css size (css.set i c) := fun cs h => by
    rcases List.mem_or_eq_of_mem_set h with h | h
    · exact hc _ h
    · rw [h]; exact hcl
  have hlen := flatten_len hc
  have hlen' := flatten_len hc'
  simp only [List.length_set] at hlen'
  have hm : (i + 1) * size ≤ css.length * size := Nat.mul_le_mul_right _ hi
  rw [Nat.succ_mul] at hm
  refine ⟨⟨by rw [hlen']; simp, ?_⟩, hc'⟩
  rcases h1 with ⟨h1, _⟩ | ⟨g', cap', rest, fr, h1, h2, h3, h4, h5, h6⟩
  · cases h1
  · cases h1
    refine .inr ⟨g, cap, rest, fr, by simp, h2, ?_, by omega, h5, by simpa using h6⟩
    rw [blk_wr_eq, h3, Option.map_some]
    congr 2
    apply Array.ext_getElem?
    intro k
    rw [wrArr_get]
    simp only [List.size_toArray, List.length_append, List.getElem?_toArray, hcl]
    by_cases hk : k < css.length * size
    · rcases Nat.eq_zero_or_pos size with hz | hz
      · simp [hz] at hk
      have e1 : k = k / size * size + k % size := by rw [Nat.mul_comm]; exact (Nat.div_add_mod k size).symm
      have hmod := Nat.mod_lt k hz
      have hq : k / size < css.length := by rw [Nat.div_lt_iff_lt_mul hz]; exact hk
      have g1 := flatten_get hc (k / size) hq (k % size) hmod
      have g2 := flatten_get hc' (k / size) (by simpa using hq) (k % size) hmod
      rw [← e1] at g1 g2
      have l1 : k < css.flatten.length := by omega
      have l2 : k < (css.set i c).flatten.length := by omega
      simp only [List.getElem?_append, l1, l2, if_true]
      rw [g1, g2]
      by_cases hq2 : k / size = i
      · subst hq2
        rw [if_pos (by omega), List.getElem_set_self]
        congr 1; omega
      · rw [List.getElem_set_ne (by omega)]
        rw [if_neg]
        rintro ⟨a1, a2, _⟩
        apply hq2
        have : k / size = i := by
          rw [Nat.div_eq_iff hz]; omega
        exact this
    · have l1 : ¬ k < css.flatten.length := by omega
      have l2 : ¬ k < (css.set i c).flatten.length := by omega
      rw [if_neg (by omega)]
      simp only [List.getElem?_append, l1, l2, if_false]
      congr 1; omega
theorem OwnE.nil (B : Nat) (w : World) (E : TypeId) (size : Nat) : OwnE B w E size (.slice none 0 0) [] := ⟨Own.nil _ _ _ _, by simp [Css]⟩
theorem OwnE.shape {B : Nat} {w : World} {E : TypeId} {size : Nat} {v : Value} {css : List (List Value)} (h : OwnE B w E size v css) : ∃ a c, v = .slice a css.length c ∧ css.length ≤ c := h.1.shape
theorem OwnE.alloc {B : Nat} {w : World} {E : TypeId} {size : Nat} {v : Value} {css : List (List Value)} (h : OwnE B w E size v css) (o : Obj) : OwnE B (w.alloc o) E size v css := ⟨h.1.alloc o, h.2⟩
theorem OwnE.upd {S : Nat → Prop} {B : Nat} {w w' : World} {E : TypeId} {size : Nat} {v : Value} {css : List (List Value)} (h : OwnE B w E size v css) (u : Upd S w w') (hs : ∀ b, ownB v b → ¬ S b) : OwnE B w' E size v css := ⟨h.1.upd u hs, h.2⟩
theorem OwnE.snoc {B : Nat} {w : World} {E : TypeId} {size n : Nat} {v : Value} {css : List (List Value)} {c : List Value} (hc : Css size css) (hl : c.length = size) (h : Own B w E size v (n + 1) (css.flatten ++ c)) (hn : n = css.length) : OwnE B w E size v (css ++ [c]) := by
  subst hn
  refine ⟨by simpa using h, fun cs hm => ?_⟩
  rcases List.mem_append.1 hm with h | h
  · exact hc _ h
  · simp only [List.mem_singleton] at h; rw [h]; exact hl
theorem OwnE.sl {B : Nat} {w : World} {E : TypeId} {size : Nat} {v : Value} {css : List (List Value)} (h : OwnE B w E size v css) {ok : Blocks} (hok : ∀ b, ownB v b → ok b) : Sl ok w size v css := h.1.sl h.2 hok

theorem takeK_congr {P : Program} {M : Nat → Prop} {w0 : World} {o o' : Oper} {ρ : Regs} {K : Regs → Prop} (h : o = o') : takeK P M w0 o ρ K = takeK P M w0 o' ρ K := by rw [h]
theorem stepK_congr {P : Program} {o o' : Oper} {ρ : Regs} {w : World} {K : Regs → World → Prop} (h : o = o') : stepK P o ρ w K = stepK P o' ρ w K := by rw [h]

/-- The code ends in one way alone. -/
def exitQ (i : Nat) (J : Regs → World → Prop) : Exit → Regs → World → Prop := fun e ρ w => e = .exit i ∧ J ρ w
def normQ (J : Regs → World → Prop) : Exit → Regs → World → Prop := fun e ρ w => e = .normal ∧ J ρ w
theorem exitQ_exit (i : Nat) (J : Regs → World → Prop) (ρ : Regs) (w : World) : exitQ i J (.exit i) ρ w = J ρ w := by simp [exitQ]
theorem normQ_normal (J : Regs → World → Prop) (ρ : Regs) (w : World) : normQ J .normal ρ w = J ρ w := by simp [normQ]
theorem W.exitJ {P : Program} {n : Nat} {c : Code} {Q : Exit → Regs → World → Prop} {ρ : Regs} {w : World} (i : Nat) (J : Regs → World → Prop) (h : W P n c (exitQ i J) ρ w) (hq : ∀ ρ w, J ρ w → Q (.exit i) ρ w) : W P n c Q ρ w :=
  h.mono fun e ρ w ⟨he, hj⟩ => he ▸ hq ρ w hj
theorem W.normJ {P : Program} {n : Nat} {c : Code} {Q : Exit → Regs → World → Prop} {ρ : Regs} {w : World} (J : Regs → World → Prop) (h : W P n c (normQ J) ρ w) (hq : ∀ ρ w, J ρ w → Q .normal ρ w) : W P n c Q ρ w :=
  h.mono fun e ρ w ⟨he, hj⟩ => he ▸ hq ρ w hj

/-- Sorted insertion, by place. -/
theorem while_at {α : Type} {p : α → Bool} {l : List α} {i : Nat} (hi : i ≤ l.length) (h : ∀ j (hj : j < l.length), j < i → p l[j] = true) (he : ∀ hi : i < l.length, p l[i] = false) :
    l.takeWhile p = l.take i ∧ l.dropWhile p = l.drop i := by
  induction l generalizing i with
  | nil => simp
  | cons a l ih =>
    cases i with
    | zero =>
      have := he (by simp)
      simp only [List.getElem_cons_zero] at this
      simp [this]
    | succ i =>
      have h0 := h 0 (by simp) (by omega)
      simp only [List.getElem_cons_zero] at h0
      have := ih (i := i) (by simpa using hi) (fun j hj hji => h (j + 1) (Nat.succ_lt_succ hj) (by omega)) (fun hlt => he (Nat.succ_lt_succ hlt))
      simp [h0, this]
end Ms
