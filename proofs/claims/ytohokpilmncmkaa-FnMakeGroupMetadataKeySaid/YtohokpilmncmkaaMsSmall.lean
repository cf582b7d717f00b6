/- Bounded trees; the reference's conditions, unfolded. -/
import Derived.Test.YtohokpilmncmkaaMsList
set_option linter.unusedSimpArgs false
set_option linter.unusedVariables false
namespace Ms
open Go

/-- Every list in the tree has at most B elements. -/
inductive Small (B : Nat) : Tree → Prop
  | mk {n : Int} {s : List UInt8} {null : Bool} {l : List Tree} {u : List TagD} (hs : s.length ≤ B) (hl : l.length ≤ B) (hu : u.length ≤ B) (he : ∀ i (h : i < l.length), Small B l[i])
      (hd : ∀ x ∈ u, x.2.length ≤ B) : Small B (.mk n s null l u)
theorem Small.s {B : Nat} {t : Tree} (h : Small B t) : t.s.length ≤ B := by cases h; assumption
theorem Small.l {B : Nat} {t : Tree} (h : Small B t) : t.l.length ≤ B := by cases h; assumption
theorem Small.u {B : Nat} {t : Tree} (h : Small B t) : t.u.length ≤ B := by cases h; assumption
theorem Small.d {B : Nat} {t : Tree} (h : Small B t) : ∀ x ∈ t.u, x.2.length ≤ B := by cases h; assumption
theorem Small.e {B : Nat} {t : Tree} (h : Small B t) : ∀ i (h : i < t.l.length), Small B t.l[i] := by cases h; assumption
theorem Small.zero (B : Nat) : Small B .zero := .mk (Nat.zero_le _) (Nat.zero_le _) (Nat.zero_le _) (fun i h => by simp at h) (fun x h => by simp at h)
theorem Small.at {B : Nat} {t : Tree} (h : Small B t) (i : Nat) : Small B (t.at i) := by
  by_cases hi : i < t.l.length
  · have : t.at i = t.l[i] := by simp [Tree.at, hi]
    rw [this]; exact h.e i hi
  · have : t.at i = .zero := by simp [Tree.at, hi]
    rw [this]; exact Small.zero B

def okB (f : Fld) : Prop := 0 ≤ f.kind ∧ f.kind ≤ 11 ∧ -1 ≤ f.tag ∧ f.tag ≤ 1000 ∧ -9223372036854775808 ≤ f.df ∧ f.df ≤ 9223372036854775807 ∧ 0 ≤ f.of ∧ f.of ≤ 10
theorem okF_len {d : Nat} {fs : List Fld} (h : okF d fs = true) : fs.length ≤ 1000 := by
  cases d with
  | zero => simp only [okF, List.isEmpty_iff] at h; subst h; simp
  | succ d => simp only [okF, Bool.and_eq_true, Nat.ble_eq] at h; exact h.1
theorem okF_el {d : Nat} {fs : List Fld} (h : okF d fs = true) {g : Fld} (hg : g ∈ fs) : ∃ e, d = e + 1 ∧ okB g ∧ okF e g.sub = true := by
  cases d with
  | zero => simp only [okF, List.isEmpty_iff] at h; subst h; simp at hg
  | succ d =>
    simp only [okF, Bool.and_eq_true, List.all_eq_true, decide_eq_true_eq] at h
    exact ⟨d, rfl, (h.2 g hg).1, (h.2 g hg).2⟩
theorem okF_tag {d : Nat} {fs : List Fld} (h : okF d fs = true) : ∀ f ∈ fs, f.tag ≤ 1000 := fun f hf => by
  obtain ⟨e, _, h1, _⟩ := okF_el h hf; exact h1.2.2.2.1
theorem zipIdx_all {α : Type} (l : List α) (p : α × Nat → Bool) : l.zipIdx.all p = true ↔ ∀ i (h : i < l.length), p (l[i], i) = true := by
  rw [List.all_eq_true]
  constructor
  · intro h i hi
    exact h _ (by rw [List.mem_zipIdx_iff_getElem?]; simp [hi])
  · rintro h ⟨a, i⟩ hm
    rw [List.mem_zipIdx_iff_getElem?] at hm
    obtain ⟨hi, he⟩ := List.getElem?_eq_some_iff.1 hm
    have := h i hi
    simp only at he
    rw [he] at this; exact this
theorem and1 (x : Int) : (BitVec.ofInt (kbits .i64) x &&& BitVec.ofInt (kbits .i64) 1).toNat = (x % 2).toNat := by
  show (BitVec.ofInt 64 x &&& BitVec.ofInt 64 1).toNat = (x % 2).toNat
  have e : (BitVec.ofInt 64 1).toNat = 2 ^ 1 - 1 := by decide
  rw [BitVec.toNat_and, e, Nat.and_two_pow_sub_one_eq_mod, BitVec.toNat_ofInt]
  omega
end Ms
