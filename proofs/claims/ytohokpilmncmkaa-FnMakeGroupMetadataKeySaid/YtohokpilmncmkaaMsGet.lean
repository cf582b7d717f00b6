/- Elements of the reference's slices, as cells. -/
import Derived.Test.YtohokpilmncmkaaMsModel
set_option linter.unusedSimpArgs false
set_option linter.unusedVariables false
namespace Ms
open Go

def fldC (f : Fld) (vs : Value) : Array Value := #[.int .i64 f.kind, .int .i64 f.fr, .int .i64 f.to, .int .i64 f.null, .int .i64 f.tag, .int .i64 f.df, .int .i64 f.of, vs]
def treeC (t : Tree) (vS vL vU : Value) : Array Value := #[.int .i64 t.n, vS, .bool t.null, vL, vU]

theorem SlR.shape {α : Type} {ok : Blocks} {w : World} {size : Nat} {R : α → List Value → Prop} {v : Value} {xs : List α} (h : SlR ok w size R v xs) : ∃ base cap, v = .slice base xs.length cap ∧ xs.length ≤ cap := by
  obtain ⟨css, ⟨b, c, h1, h2, _⟩, h3, _⟩ := h
  exact ⟨b, c, by rw [h1, h3], by omega⟩
theorem Sl.flat {ok : Blocks} {w : World} {size : Nat} {v : Value} {css : List (List Value)} (h : Sl ok w size v css) : Ms.flat v = true := by
  obtain ⟨b, c, rfl, _⟩ := h; rfl
theorem SlR.flat {α : Type} {ok : Blocks} {w : World} {size : Nat} {R : α → List Value → Prop} {v : Value} {xs : List α} (h : SlR ok w size R v xs) : Ms.flat v = true := by
  obtain ⟨css, h1, _⟩ := h; exact h1.flat
theorem BytesV.flat {ok : Blocks} {w : World} {v : Value} {s : List UInt8} (h : BytesV ok w v s) : Ms.flat v = true := Sl.flat h
theorem SlR.get {α : Type} {ok : Blocks} {w : World} {size : Nat} {R : α → List Value → Prop} {base : Option Addr} {n cap : Nat} {xs : List α} (hz : 0 < size) (h : SlR ok w size R (.slice base n cap) xs) {i : Nat} (hi : i < xs.length) :
    n = xs.length ∧ ∃ b o x cs, base = some ⟨b, o, none⟩ ∧ ok b ∧ blk w b = some x ∧ b < w.heap.size ∧ o + (i * size + size) ≤ x.1.size ∧ x.1.extract (o + i * size) (o + (i * size + size)) = cs.toArray ∧
      (∀ j, j < size → x.1[o + (i * size + j)]? = cs[j]?) ∧ R xs[i] cs := by
  obtain ⟨css, h1, h2, h3⟩ := h
  obtain ⟨e, b, o, x, h4, h5, h6, h7, h8, h9⟩ := Sl.get hz h1 (i := i) (by omega)
  refine ⟨by omega, b, o, x, css[i]'(by omega), h4, h5, h6, blk_lt h6, by omega, by rw [← Nat.add_assoc]; exact h8, fun j hj => by rw [← Nat.add_assoc]; exact h9 j hj, h3 i hi (by omega)⟩

theorem FldsV.get {ok : Blocks} {w : World} {base : Option Addr} {n cap : Nat} {xs : List Fld} (h : FldsV ok w (.slice base n cap) xs) {i : Nat} (hi : i < xs.length) :
    n = xs.length ∧ ∃ b o x vs, base = some ⟨b, o, none⟩ ∧ ok b ∧ blk w b = some x ∧ b < w.heap.size ∧ o + (i * 8 + 8) ≤ x.1.size ∧
      x.1.extract (o + i * 8) (o + (i * 8 + 8)) = #[.int .i64 xs[i].kind, .int .i64 xs[i].fr, .int .i64 xs[i].to, .int .i64 xs[i].null, .int .i64 xs[i].tag, .int .i64 xs[i].df, .int .i64 xs[i].of, vs] ∧ flat vs = true ∧ FldsV ok w vs xs[i].sub := by
  obtain ⟨e, b, o, x, cs, h1, h2, h3, h4, h5, h6, h7, h8⟩ := SlR.get (by omega) h hi
  obtain ⟨vs, rfl, h9⟩ := h8.inv
  exact ⟨e, b, o, x, vs, h1, h2, h3, h4, h5, h6, SlR.flat h9, h9⟩
theorem TreesV.get {ok : Blocks} {w : World} {base : Option Addr} {n cap : Nat} {xs : List Tree} (h : TreesV ok w (.slice base n cap) xs) {i : Nat} (hi : i < xs.length) :
    n = xs.length ∧ ∃ b o x vS vL vU, base = some ⟨b, o, none⟩ ∧ ok b ∧ blk w b = some x ∧ b < w.heap.size ∧ o + (i * 5 + 5) ≤ x.1.size ∧
      x.1.extract (o + i * 5) (o + (i * 5 + 5)) = #[.int .i64 xs[i].n, vS, .bool xs[i].null, vL, vU] ∧ flat vS = true ∧ flat vL = true ∧ flat vU = true ∧ TreeC ok w xs[i] [.int .i64 xs[i].n, vS, .bool xs[i].null, vL, vU] := by
  obtain ⟨e, b, o, x, cs, h1, h2, h3, h4, h5, h6, h7, h8⟩ := SlR.get (by omega) h hi
  obtain ⟨vS, vL, vU, rfl, h9, h10, h11, h12⟩ := h8.inv
  exact ⟨e, b, o, x, vS, vL, vU, h1, h2, h3, h4, h5, h6, h10.flat, SlR.flat h11, SlR.flat h12, h8⟩
theorem TagsV.get {ok : Blocks} {w : World} {base : Option Addr} {n cap : Nat} {xs : List TagD} (h : TagsV ok w (.slice base n cap) xs) {i : Nat} (hi : i < xs.length) :
    n = xs.length ∧ ∃ b o x vv, base = some ⟨b, o, none⟩ ∧ ok b ∧ blk w b = some x ∧ b < w.heap.size ∧ o + (i * 2 + 2) ≤ x.1.size ∧
      x.1.extract (o + i * 2) (o + (i * 2 + 2)) = #[.int .u32 xs[i].1, vv] ∧ x.1[o + i * 2]? = some (.int .u32 xs[i].1) ∧ x.1[o + (i * 2 + 1)]? = some vv ∧ flat vv = true ∧ BytesV ok w vv xs[i].2 ∧ xs[i].1 < 2 ^ 32 := by
  obtain ⟨e, b, o, x, cs, h1, h2, h3, h4, h5, h6, h7, vv, rfl, h9, h10⟩ := SlR.get (by omega) h hi
  exact ⟨e, b, o, x, vv, h1, h2, h3, h4, h5, h6, by simpa using h7 0 (by omega), by simpa using h7 1 (by omega), h9.flat, h9, h10⟩

theorem Seg.take {ok : Blocks} {w : World} {a : Addr} {cs : List Value} (h : Seg ok w a cs) (k : Nat) : Seg ok w a (cs.take k) := by
  obtain ⟨h1, h2, x, hx, h3⟩ := h
  refine ⟨h1, h2, x, hx, fun i hi => ?_⟩
  simp only [List.length_take] at hi
  rw [h3 i (by omega), List.getElem?_take_of_lt (by omega)]
theorem flatten_take {css : List (List Value)} {size : Nat} (hs : ∀ cs ∈ css, cs.length = size) (k : Nat) : (css.take k).flatten = css.flatten.take (k * size) := by
  induction css generalizing k with
  | nil => simp
  | cons c css ih =>
    have hc : c.length = size := hs c (by simp)
    cases k with
    | zero => simp
    | succ k =>
      simp only [List.take_succ_cons, List.flatten_cons, ih (fun cs h => hs cs (by simp [h])), List.take_append, hc]
      have e1 : (k + 1) * size - size = k * size := by rw [Nat.succ_mul]; omega
      have e2 : c.length ≤ (k + 1) * size := by rw [hc, Nat.succ_mul]; omega
      rw [e1, List.take_of_length_le e2]
theorem Sl.take {ok : Blocks} {w : World} {size : Nat} {base : Option Addr} {n cap : Nat} {css : List (List Value)} (h : Sl ok w size (.slice base n cap) css) (k : Nat) (hk : k ≤ css.length) :
    Sl ok w size (.slice (slBase base 0 cap size) k cap) (css.take k) := by
  obtain ⟨b, c, h1, h2, h3, h4⟩ := h
  cases h1
  have hl : (css.take k).length = k := by simp; omega
  refine ⟨_, cap, by rw [hl], by omega, fun cs h => h3 cs (List.mem_of_mem_take h), ?_⟩
  rcases h4 with h4 | ⟨a, ha, hs⟩
  · exact .inl (by rw [h4]; simp)
  · by_cases h0 : css.take k = []
    · exact .inl h0
    · refine .inr ⟨a, ?_, by rw [flatten_take h3]; exact hs.take _⟩
      subst ha
      obtain ⟨ab, ao, asp⟩ := a
      have : cap ≠ 0 := by intro e; apply h0; apply List.eq_nil_of_length_eq_zero; omega
      simp only [slBase, this, if_false, Option.map_some, Nat.zero_mul]
      obtain ⟨hs1, _⟩ := hs
      simp only at hs1
      subst hs1
      rfl
theorem BytesV.take {ok : Blocks} {w : World} {base : Option Addr} {n cap : Nat} {s : List UInt8} (h : BytesV ok w (.slice base n cap) s) (k : Nat) (hk : k ≤ s.length) :
    BytesV ok w (.slice (slBase base 0 cap 1) k cap) (s.take k) := by
  have := Sl.take h k (by simpa using hk)
  rw [← List.map_take] at this; exact this
theorem SlR.take {α : Type} {ok : Blocks} {w : World} {size : Nat} {R : α → List Value → Prop} {base : Option Addr} {n cap : Nat} {xs : List α} (h : SlR ok w size R (.slice base n cap) xs) (k : Nat) (hk : k ≤ xs.length) :
    SlR ok w size R (.slice (slBase base 0 cap size) k cap) (xs.take k) := by
  obtain ⟨css, h1, h2, h3⟩ := h
  refine ⟨css.take k, h1.take k (by omega), by simp; omega, fun i h4 h5 => ?_⟩
  simp only [List.length_take] at h4 h5
  simp only [List.getElem_take]
  exact h3 i (by omega) (by omega)

theorem take_min {α : Type} (l : List α) : l.take (min l.length 32767) = l.take 32767 := by
  rcases Nat.le_total l.length 32767 with h | h
  · rw [Nat.min_eq_left h, List.take_length, List.take_of_length_le h]
  · rw [Nat.min_eq_right h]

theorem knownS_le {fs : List Fld} (h : ∀ f ∈ fs, f.tag ≤ 1000) : knownS fs ≤ 1001 := by
  have : ∀ (fs : List Fld) (n : Nat), n ≤ 1001 → (∀ f ∈ fs, f.tag ≤ 1000) → fs.foldl (fun n f => if 0 ≤ f.tag then max n (f.tag.toNat + 1) else n) n ≤ 1001 := by
    intro fs
    induction fs with
    | nil => intro n hn _; exact hn
    | cons f fs ih =>
      intro n hn h
      refine ih _ ?_ fun g hg => h g (by simp [hg])
      have := h f (by simp)
      show (if 0 ≤ f.tag then max n (f.tag.toNat + 1) else n) ≤ 1001
      split <;> omega
  exact this fs 0 (by omega) h
theorem knownS_snoc (fs : List Fld) (i : Nat) (h : i < fs.length) : knownS (fs.take (i + 1)) = if 0 ≤ fs[i].tag then max (knownS (fs.take i)) (fs[i].tag.toNat + 1) else knownS (fs.take i) := by
  rw [List.take_succ_eq_append_getElem h]
  simp only [knownS, List.foldl_append, List.foldl_cons, List.foldl_nil]
end Ms
