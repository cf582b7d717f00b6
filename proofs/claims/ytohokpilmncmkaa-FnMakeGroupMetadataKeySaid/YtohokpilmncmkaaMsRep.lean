/- Data in memory: segments of cells, slices, octets, tags, trees, fields; slices that a call owns and appends to. -/
import Derived.Test.YtohokpilmncmkaaMsHeap
set_option linter.unusedSimpArgs false
set_option linter.unusedVariables false
namespace Ms
open Go Go.RowKit

abbrev Blocks := Nat → Prop
abbrev AnyB : Blocks := fun _ => True

def byteV (b : UInt8) : Value := .int .u8 b.toNat

/-- Cells cs lie from address a on, in a block that is allowed. -/
def Seg (ok : Blocks) (w : World) (a : Addr) (cs : List Value) : Prop :=
  a.spot = none ∧ ok a.block ∧ ∃ x, blk w a.block = some x ∧ ∀ i, i < cs.length → x.1[a.off + i]? = cs[i]?

/-- The value is a slice of elements of so many cells, which lie there. -/
def Sl (ok : Blocks) (w : World) (size : Nat) (v : Value) (css : List (List Value)) : Prop :=
  ∃ base cap, v = .slice base css.length cap ∧ css.length ≤ cap ∧ (∀ cs ∈ css, cs.length = size) ∧ (css = [] ∨ ∃ a, base = some a ∧ Seg ok w a css.flatten)

def All2 {α β : Type} (R : α → β → Prop) (xs : List α) (ys : List β) : Prop :=
  xs.length = ys.length ∧ ∀ i (h1 : i < xs.length) (h2 : i < ys.length), R xs[i] ys[i]

/-- A slice that reads as a list of things. -/
def SlR {α : Type} (ok : Blocks) (w : World) (size : Nat) (R : α → List Value → Prop) (v : Value) (xs : List α) : Prop :=
  ∃ css, Sl ok w size v css ∧ All2 R xs css

def ByteC (b : UInt8) (cs : List Value) : Prop := cs = [byteV b]
def BytesV (ok : Blocks) (w : World) (v : Value) (s : List UInt8) : Prop := Sl ok w 1 v (s.map fun b => [byteV b])

abbrev TagD := Nat × List UInt8
def TagC (ok : Blocks) (w : World) (t : TagD) (cs : List Value) : Prop := ∃ vv, cs = [.int .u32 t.1, vv] ∧ BytesV ok w vv t.2 ∧ t.1 < 2 ^ 32
def TagsV (ok : Blocks) (w : World) (v : Value) (u : List TagD) : Prop := SlR ok w 2 (TagC ok w) v u

inductive Tree where
  | mk (n : Int) (s : List UInt8) (null : Bool) (l : List Tree) (u : List TagD)

def Tree.n : Tree → Int | .mk n _ _ _ _ => n
def Tree.s : Tree → List UInt8 | .mk _ s _ _ _ => s
def Tree.null : Tree → Bool | .mk _ _ b _ _ => b
def Tree.l : Tree → List Tree | .mk _ _ _ l _ => l
def Tree.u : Tree → List TagD | .mk _ _ _ _ u => u
def Tree.zero : Tree := .mk 0 [] false [] []

inductive TreeC (ok : Blocks) (w : World) : Tree → List Value → Prop
  | mk {n : Int} {s : List UInt8} {null : Bool} {l : List Tree} {u : List TagD} {vS vL vU : Value} {css : List (List Value)}
      (hn : IntKind.i64.wrap n = n) (hS : BytesV ok w vS s) (hL : Sl ok w 5 vL css) (hl : l.length = css.length)
      (he : ∀ i (h1 : i < l.length) (h2 : i < css.length), TreeC ok w l[i] css[i]) (hU : TagsV ok w vU u) :
      TreeC ok w (.mk n s null l u) [.int .i64 n, vS, .bool null, vL, vU]

def TreesV (ok : Blocks) (w : World) (v : Value) (l : List Tree) : Prop := SlR ok w 5 (TreeC ok w) v l
def TreeV (ok : Blocks) (w : World) (v : Value) (t : Tree) : Prop := ∃ cs, v = .agg cs.toArray ∧ TreeC ok w t cs

theorem TreeC.inv {ok : Blocks} {w : World} {t : Tree} {cs : List Value} (h : TreeC ok w t cs) :
    ∃ vS vL vU, cs = [.int .i64 t.n, vS, .bool t.null, vL, vU] ∧ IntKind.i64.wrap t.n = t.n ∧ BytesV ok w vS t.s ∧ TreesV ok w vL t.l ∧ TagsV ok w vU t.u := by
  cases h with
  | mk hn hS hL hl he hU => exact ⟨_, _, _, rfl, hn, hS, ⟨_, hL, hl, he⟩, hU⟩
theorem TreeC.intro {ok : Blocks} {w : World} {n : Int} {s : List UInt8} {null : Bool} {l : List Tree} {u : List TagD} {vS vL vU : Value}
    (hn : IntKind.i64.wrap n = n) (hS : BytesV ok w vS s) (hL : TreesV ok w vL l) (hU : TagsV ok w vU u) : TreeC ok w (.mk n s null l u) [.int .i64 n, vS, .bool null, vL, vU] := by
  obtain ⟨css, h1, h2, h3⟩ := hL
  exact .mk hn hS h1 h2 h3 hU

/-- A field of the reference. -/
inductive Fld where
  | mk (kind fr to null tag df of : Int) (sub : List Fld)
def Fld.kind : Fld → Int | .mk a _ _ _ _ _ _ _ => a
def Fld.fr : Fld → Int | .mk _ a _ _ _ _ _ _ => a
def Fld.to : Fld → Int | .mk _ _ a _ _ _ _ _ => a
def Fld.null : Fld → Int | .mk _ _ _ a _ _ _ _ => a
def Fld.tag : Fld → Int | .mk _ _ _ _ a _ _ _ => a
def Fld.df : Fld → Int | .mk _ _ _ _ _ a _ _ => a
def Fld.of : Fld → Int | .mk _ _ _ _ _ _ a _ => a
def Fld.sub : Fld → List Fld | .mk _ _ _ _ _ _ _ a => a

inductive FldC (ok : Blocks) (w : World) : Fld → List Value → Prop
  | mk {kind fr to null tag df of : Int} {sub : List Fld} {vs : Value} {css : List (List Value)} (hs : Sl ok w 8 vs css) (hl : sub.length = css.length)
      (he : ∀ i (h1 : i < sub.length) (h2 : i < css.length), FldC ok w sub[i] css[i]) :
      FldC ok w (.mk kind fr to null tag df of sub) [.int .i64 kind, .int .i64 fr, .int .i64 to, .int .i64 null, .int .i64 tag, .int .i64 df, .int .i64 of, vs]
def FldsV (ok : Blocks) (w : World) (v : Value) (l : List Fld) : Prop := SlR ok w 8 (FldC ok w) v l
theorem FldC.inv {ok : Blocks} {w : World} {f : Fld} {cs : List Value} (h : FldC ok w f cs) :
    ∃ vs, cs = [.int .i64 f.kind, .int .i64 f.fr, .int .i64 f.to, .int .i64 f.null, .int .i64 f.tag, .int .i64 f.df, .int .i64 f.of, vs] ∧ FldsV ok w vs f.sub := by
  cases h with
  | mk hs hl he => exact ⟨_, rfl, _, hs, hl, he⟩
theorem FldC.intro {ok : Blocks} {w : World} {kind fr to null tag df of : Int} {sub : List Fld} {vs : Value} (h : FldsV ok w vs sub) :
    FldC ok w (.mk kind fr to null tag df of sub) [.int .i64 kind, .int .i64 fr, .int .i64 to, .int .i64 null, .int .i64 tag, .int .i64 df, .int .i64 of, vs] := by
  obtain ⟨css, h1, h2, h3⟩ := h
  exact .mk h1 h2 h3

/-! ### They stay -/
/-- What a step leaves: the allowed blocks of before. -/
def Keeps (ok : Blocks) (w w' : World) : Prop := ∀ b, b < w.heap.size → ok b → w'.heap[b]? = w.heap[b]?

theorem Upd.keeps {S : Nat → Prop} {w w' : World} (h : Upd S w w') {ok : Blocks} (hs : ∀ b, b < w.heap.size → ok b → ¬ S b) : Keeps ok w w' :=
  fun b hb hk => h.keep b hb (hs b hb hk)
theorem Ext.keeps {w w' : World} (h : Ext w w') (ok : Blocks) : Keeps ok w w' := fun b hb _ => h.keep b hb (fun h => h)

theorem Seg.keep {ok : Blocks} {w w' : World} {a : Addr} {cs : List Value} (h : Seg ok w a cs) (k : Keeps ok w w') : Seg ok w' a cs := by
  obtain ⟨h1, h2, x, hx, h3⟩ := h
  exact ⟨h1, h2, x, by rw [blk_of_heap (k a.block (blk_lt hx) h2)]; exact hx, h3⟩
theorem Seg.weaken {ok ok' : Blocks} {w : World} {a : Addr} {cs : List Value} (h : Seg ok w a cs) (k : ∀ b, b < w.heap.size → ok b → ok' b) : Seg ok' w a cs := by
  obtain ⟨h1, h2, x, hx, h3⟩ := h
  exact ⟨h1, k _ (blk_lt hx) h2, x, hx, h3⟩
theorem Sl.keep {ok : Blocks} {w w' : World} {size : Nat} {v : Value} {css : List (List Value)} (h : Sl ok w size v css) (k : Keeps ok w w') : Sl ok w' size v css := by
  obtain ⟨b, c, h1, h2, h3, h4⟩ := h
  exact ⟨b, c, h1, h2, h3, h4.imp id fun ⟨a, ha, hs⟩ => ⟨a, ha, hs.keep k⟩⟩
theorem Sl.weaken {ok ok' : Blocks} {w : World} {size : Nat} {v : Value} {css : List (List Value)} (h : Sl ok w size v css) (k : ∀ b, b < w.heap.size → ok b → ok' b) : Sl ok' w size v css := by
  obtain ⟨b, c, h1, h2, h3, h4⟩ := h
  exact ⟨b, c, h1, h2, h3, h4.imp id fun ⟨a, ha, hs⟩ => ⟨a, ha, hs.weaken k⟩⟩
theorem All2.imp {α β : Type} {R S : α → β → Prop} {xs : List α} {ys : List β} (h : All2 R xs ys) (k : ∀ x y, R x y → S x y) : All2 S xs ys := ⟨h.1, fun i h1 h2 => k _ _ (h.2 i h1 h2)⟩
theorem BytesV.keep {ok : Blocks} {w w' : World} {v : Value} {s : List UInt8} (h : BytesV ok w v s) (k : Keeps ok w w') : BytesV ok w' v s := Sl.keep h k
theorem BytesV.weaken {ok ok' : Blocks} {w : World} {v : Value} {s : List UInt8} (h : BytesV ok w v s) (k : ∀ b, b < w.heap.size → ok b → ok' b) : BytesV ok' w v s := Sl.weaken h k
theorem TagC.keep {ok : Blocks} {w w' : World} {t : TagD} {cs : List Value} (h : TagC ok w t cs) (k : Keeps ok w w') : TagC ok w' t cs := by
  obtain ⟨v, h1, h2, h3⟩ := h; exact ⟨v, h1, h2.keep k, h3⟩
theorem TagC.weaken {ok ok' : Blocks} {w : World} {t : TagD} {cs : List Value} (h : TagC ok w t cs) (k : ∀ b, b < w.heap.size → ok b → ok' b) : TagC ok' w t cs := by
  obtain ⟨v, h1, h2, h3⟩ := h; exact ⟨v, h1, h2.weaken k, h3⟩
theorem TagsV.keep {ok : Blocks} {w w' : World} {v : Value} {s : List TagD} (h : TagsV ok w v s) (k : Keeps ok w w') : TagsV ok w' v s := by
  obtain ⟨css, h1, h2⟩ := h; exact ⟨css, h1.keep k, h2.imp fun _ _ h => h.keep k⟩
theorem TagsV.weaken {ok ok' : Blocks} {w : World} {v : Value} {s : List TagD} (h : TagsV ok w v s) (k : ∀ b, b < w.heap.size → ok b → ok' b) : TagsV ok' w v s := by
  obtain ⟨css, h1, h2⟩ := h; exact ⟨css, h1.weaken k, h2.imp fun _ _ h => h.weaken k⟩
theorem TreeC.keep {ok : Blocks} {w w' : World} (k : Keeps ok w w') {t : Tree} {cs : List Value} (h : TreeC ok w t cs) : TreeC ok w' t cs := by
  induction h with
  | mk hn hS hL hl he hU ih => exact .mk hn (hS.keep k) (hL.keep k) hl (fun i h1 h2 => ih i h1 h2) (hU.keep k)
theorem TreeC.weaken {ok ok' : Blocks} {w : World} (k : ∀ b, b < w.heap.size → ok b → ok' b) {t : Tree} {cs : List Value} (h : TreeC ok w t cs) : TreeC ok' w t cs := by
  induction h with
  | mk hn hS hL hl he hU ih => exact .mk hn (hS.weaken k) (hL.weaken k) hl (fun i h1 h2 => ih i h1 h2) (hU.weaken k)
theorem TreesV.keep {ok : Blocks} {w w' : World} {v : Value} {l : List Tree} (h : TreesV ok w v l) (k : Keeps ok w w') : TreesV ok w' v l := by
  obtain ⟨css, h1, h2⟩ := h; exact ⟨css, h1.keep k, h2.imp fun _ _ h => h.keep k⟩
theorem TreesV.weaken {ok ok' : Blocks} {w : World} {v : Value} {l : List Tree} (h : TreesV ok w v l) (k : ∀ b, b < w.heap.size → ok b → ok' b) : TreesV ok' w v l := by
  obtain ⟨css, h1, h2⟩ := h; exact ⟨css, h1.weaken k, h2.imp fun _ _ h => h.weaken k⟩
theorem TreeV.keep {ok : Blocks} {w w' : World} {v : Value} {t : Tree} (h : TreeV ok w v t) (k : Keeps ok w w') : TreeV ok w' v t := by
  obtain ⟨cs, h1, h2⟩ := h; exact ⟨cs, h1, h2.keep k⟩
theorem TreeV.weaken {ok ok' : Blocks} {w : World} {v : Value} {t : Tree} (h : TreeV ok w v t) (k : ∀ b, b < w.heap.size → ok b → ok' b) : TreeV ok' w v t := by
  obtain ⟨cs, h1, h2⟩ := h; exact ⟨cs, h1, h2.weaken k⟩
theorem FldC.keep {ok : Blocks} {w w' : World} (k : Keeps ok w w') {t : Fld} {cs : List Value} (h : FldC ok w t cs) : FldC ok w' t cs := by
  induction h with
  | mk hs hl he ih => exact .mk (hs.keep k) hl (fun i h1 h2 => ih i h1 h2)
theorem FldsV.keep {ok : Blocks} {w w' : World} {v : Value} {l : List Fld} (h : FldsV ok w v l) (k : Keeps ok w w') : FldsV ok w' v l := by
  obtain ⟨css, h1, h2⟩ := h; exact ⟨css, h1.keep k, h2.imp fun _ _ h => h.keep k⟩

/-! ### Reading an element -/
theorem flatten_get {css : List (List Value)} {size : Nat} (hs : ∀ cs ∈ css, cs.length = size) : ∀ (i : Nat) (hi : i < css.length) (j : Nat), j < size → css.flatten[i * size + j]? = (css[i])[j]? := by
  induction css with
  | nil => intro i hi; simp at hi
  | cons c css ih =>
    intro i hi j hj
    have hc : c.length = size := hs c (by simp)
    cases i with
    | zero => simp [List.getElem?_append, hc, hj]
    | succ i =>
      have : ¬ (i + 1) * size + j < c.length := by rw [hc, Nat.succ_mul]; omega
      simp only [List.flatten_cons, List.getElem?_append, this, if_false, List.getElem_cons_succ]
      rw [show (i + 1) * size + j - c.length = i * size + j from by rw [hc, Nat.succ_mul]; omega]
      exact ih (fun cs h => hs cs (by simp [h])) i (by simpa using hi) j hj
theorem flatten_len {css : List (List Value)} {size : Nat} (hs : ∀ cs ∈ css, cs.length = size) : css.flatten.length = css.length * size := by
  induction css with
  | nil => simp
  | cons c css ih => simp only [List.flatten_cons, List.length_append, List.length_cons, hs c (by simp), ih (fun cs h => hs cs (by simp [h])), Nat.succ_mul]; omega

/-- The cells of element i of a slice, and where they lie. -/
theorem Sl.get {ok : Blocks} {w : World} {size : Nat} {base : Option Addr} {n cap : Nat} {css : List (List Value)} (hz : 0 < size) (h : Sl ok w size (.slice base n cap) css) {i : Nat} (hi : i < css.length) :
    n = css.length ∧ ∃ b o x, base = some ⟨b, o, none⟩ ∧ ok b ∧ blk w b = some x ∧ o + i * size + size ≤ x.1.size ∧ x.1.extract (o + i * size) (o + i * size + size) = (css[i]).toArray ∧
      ∀ j, j < size → x.1[o + i * size + j]? = (css[i])[j]? := by
  obtain ⟨base', cap', h1, h2, h3, h4⟩ := h
  cases h1
  refine ⟨rfl, ?_⟩
  rcases h4 with h4 | ⟨a, ha, hspot, hok, x, hx, h5⟩
  · subst h4; simp at hi
  · obtain ⟨b, o, sp⟩ := a
    simp only at hspot; subst hspot
    have hlen := flatten_len h3
    have hci : (css[i]).length = size := h3 _ (List.getElem_mem hi)
    have hmul : i * size + size ≤ css.length * size := by
      have : (i + 1) * size ≤ css.length * size := Nat.mul_le_mul_right _ hi
      rw [Nat.succ_mul] at this; exact this
    have key : ∀ j, j < size → x.1[o + i * size + j]? = (css[i])[j]? := fun j hj => by
      have := h5 (i * size + j) (by omega)
      rw [← Nat.add_assoc] at this
      rw [this]; exact flatten_get h3 i hi j hj
    refine ⟨b, o, x, ha, hok, hx, ?_, ?_, key⟩
    · have := key (size - 1) (by omega)
      have hsome : ((css[i])[size - 1]?).isSome := by simp [hci]; omega
      rw [← this] at hsome
      have : o + i * size + (size - 1) < x.1.size := by
        rcases Nat.lt_or_ge (o + i * size + (size - 1)) x.1.size with h | h
        · exact h
        · rw [Array.getElem?_eq_none h] at hsome; simp at hsome
      omega
    · apply Array.ext_getElem?
      intro j
      by_cases hj : j < size
      · have := key j hj
        simp only [Array.getElem?_extract, List.getElem?_toArray]
        rw [← this]
        simp; omega
      · have h1 : (css[i]).toArray[j]? = none := by simp [hci]; omega
        rw [h1]
        simp; omega

end Ms
