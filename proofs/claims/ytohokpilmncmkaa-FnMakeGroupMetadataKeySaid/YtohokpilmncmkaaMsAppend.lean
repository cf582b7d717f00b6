/- 'append' onto a slice that the call owns, from a slice, a string, or zeros. -/
import Derived.Test.YtohokpilmncmkaaMsRep
set_option linter.unusedSimpArgs false
set_option linter.unusedVariables false
namespace Ms
open Go Go.RowKit

/-- The call's own slice: n elements, whose cells are cs; its row, in block B or above, is its alone. -/
def Own (B : Nat) (w : World) (E : TypeId) (size : Nat) (v : Value) (n : Nat) (cs : List Value) : Prop :=
  cs.length = n * size ∧ ((v = .slice none 0 0 ∧ n = 0) ∨ ∃ g cap rest fr, v = .slice (some ⟨g, 0, none⟩) n cap ∧ B ≤ g ∧ blk w g = some ((cs ++ rest).toArray, E, fr) ∧
    cs.length + rest.length = cap * size ∧ thaw fr 0 (cap * size) = true ∧ n ≤ cap)

def ownB (v : Value) (b : Nat) : Prop := ∃ a n c, v = .slice (some a) n c ∧ b = a.block

theorem Own.nil (B : Nat) (w : World) (E : TypeId) (size : Nat) : Own B w E size (.slice none 0 0) 0 [] := ⟨by simp, .inl ⟨rfl, rfl⟩⟩
theorem Own.shape {B : Nat} {w : World} {E : TypeId} {size : Nat} {v : Value} {n : Nat} {cs : List Value} (h : Own B w E size v n cs) : ∃ a c, v = .slice a n c ∧ n ≤ c := by
  rcases h.2 with ⟨h1, h0⟩ | ⟨g, cap, rest, fr, h1, _, _, _, _, h2⟩
  · subst h0; exact ⟨_, _, h1, Nat.le_refl _⟩
  · exact ⟨_, _, h1, h2⟩
theorem Own.keep {B : Nat} {w w' : World} {E : TypeId} {size : Nat} {v : Value} {n : Nat} {cs : List Value} (h : Own B w E size v n cs) (k : ∀ b, ownB v b → b < w.heap.size → w'.heap[b]? = w.heap[b]?) : Own B w' E size v n cs := by
  refine ⟨h.1, h.2.imp id ?_⟩
  rintro ⟨g, cap, rest, fr, h1, h2, h3, h4⟩
  exact ⟨g, cap, rest, fr, h1, h2, by rw [blk_of_heap (k g ⟨_, _, _, h1, rfl⟩ (blk_lt h3))]; exact h3, h4⟩
theorem Own.above {B : Nat} {w : World} {E : TypeId} {size : Nat} {v : Value} {n : Nat} {cs : List Value} (h : Own B w E size v n cs) {b : Nat} (hb : ownB v b) : B ≤ b := by
  obtain ⟨a, m, c, rfl, rfl⟩ := hb
  rcases h.2 with ⟨h, _⟩ | ⟨g, cap, rest, fr, h1, h2, _⟩
  · cases h
  · cases h1; exact h2
theorem Own.below {B : Nat} {w : World} {E : TypeId} {size : Nat} {v : Value} {n : Nat} {cs : List Value} (h : Own B w E size v n cs) {b : Nat} (hb : ownB v b) : b < w.heap.size := by
  obtain ⟨a, m, c, rfl, rfl⟩ := hb
  rcases h.2 with ⟨h, _⟩ | ⟨g, cap, rest, fr, h1, h2, h3, _⟩
  · cases h
  · cases h1; exact blk_lt h3
/-- An own slice reads as what it holds. -/
theorem Own.sl {B : Nat} {w : World} {E : TypeId} {size : Nat} {v : Value} {css : List (List Value)} (h : Own B w E size v css.length css.flatten) (hs : ∀ cs ∈ css, cs.length = size) {ok : Blocks} (hok : ∀ b, ownB v b → ok b) : Sl ok w size v css := by
  rcases h.2 with ⟨h1, h2⟩ | ⟨g, cap, rest, fr, h1, h2, h3, h4, h5, h6⟩
  · exact ⟨none, 0, by rw [h1, h2], by omega, hs, .inl (List.eq_nil_of_length_eq_zero h2)⟩
  · refine ⟨_, _, h1, h6, hs, .inr ⟨_, rfl, rfl, hok g ⟨_, _, _, h1, rfl⟩, _, h3, fun i hi => ?_⟩⟩
    simp only [Nat.zero_add, List.getElem?_toArray, List.getElem?_append, hi, if_true]
theorem flatten_bytes (s : List UInt8) : (s.map fun b => [byteV b]).flatten = s.map byteV := by
  induction s with
  | nil => rfl
  | cons b s ih => simp only [List.map_cons, List.flatten_cons, ih]; rfl
theorem Own.bytes {B : Nat} {w : World} {E : TypeId} {v : Value} {s : List UInt8} (h : Own B w E 1 v s.length (s.map byteV)) {ok : Blocks} (hok : ∀ b, ownB v b → ok b) : BytesV ok w v s := by
  refine Own.sl (css := s.map fun b => [byteV b]) (E := E) (B := B) ?_ (by simp) hok
  rw [flatten_bytes]; simpa using h

def bytesOf (s : ByteArray) : List UInt8 := s.data.toList

/-- What is appended: m elements, whose cells are news: a slice's, or a string's octets. -/
def Src (w : World) (size : Nat) (x : Value) (m : Nat) (news : List Value) : Prop :=
  news.length = m * size ∧ news.all flat = true ∧
  ((∃ base n cap, x = .slice base n cap ∧ m = n ∧ (news = [] ∨ ∃ a, base = some a ∧ Seg AnyB w a news)) ∨
   (∃ s, x = .string s ∧ m = s.size ∧ size = 1 ∧ news = (bytesOf s).map byteV))

theorem Src.keep {w w' : World} {size : Nat} {x : Value} {m : Nat} {news : List Value} (h : Src w size x m news) (k : Keeps AnyB w w') : Src w' size x m news := by
  obtain ⟨h1, h2, h3⟩ := h
  refine ⟨h1, h2, h3.imp ?_ id⟩
  rintro ⟨b, n, c, h4, h5, h6⟩
  exact ⟨b, n, c, h4, h5, h6.imp id fun ⟨a, ha, hs⟩ => ⟨a, ha, hs.keep k⟩⟩
theorem all_flatten {css : List (List Value)} (h : ∀ cs ∈ css, cs.all flat = true) : css.flatten.all flat = true := by
  induction css with
  | nil => rfl
  | cons c css ih => simp only [List.flatten_cons, List.all_append, h c (by simp), ih (fun cs hc => h cs (by simp [hc])), Bool.and_self]
theorem Sl.src {ok : Blocks} {w : World} {size : Nat} {x : Value} {css : List (List Value)} (h : Sl ok w size x css) (hf : ∀ cs ∈ css, cs.all flat = true) : Src w size x css.length css.flatten := by
  obtain ⟨b, c, h1, h2, h3, h4⟩ := h
  refine ⟨flatten_len h3, all_flatten hf, .inl ⟨b, _, c, h1, rfl, ?_⟩⟩
  rcases h4 with rfl | ⟨a, ha, hs⟩
  · exact .inl rfl
  · exact .inr ⟨a, ha, hs.weaken fun _ _ _ => trivial⟩
theorem flat_byte (b : UInt8) : flat (byteV b) = true := rfl
theorem BytesV.src {ok : Blocks} {w : World} {x : Value} {s : List UInt8} (h : BytesV ok w x s) : Src w 1 x s.length (s.map byteV) := by
  have := Sl.src h (by intro cs hc; simp only [List.mem_map] at hc; obtain ⟨b, _, rfl⟩ := hc; rfl)
  rw [flatten_bytes, List.length_map] at this
  exact this
theorem Src.string (w : World) (s : ByteArray) : Src w 1 (.string s) s.size ((bytesOf s).map byteV) := by
  refine ⟨by simp [bytesOf], ?_, .inr ⟨s, rfl, rfl, rfl, rfl⟩⟩
  simp only [List.all_map, List.all_eq_true]
  intro b _; rfl

/-- The types at an append: a slice type, its element's size in cells, its zero. -/
structure AppT (P : Program) (T X E : TypeId) (size bytes : Nat) : Prop where
  slice : P.underlying T = some (.slice E)
  info : ∃ i z, P.info? E = some i ∧ i.size = size ∧ i.bytes = bytes ∧ i.zero = some z ∧ z.cells.size = size
  pos : 0 < size
  noInt : (∃ e, P.underlying X = some (.slice e)) ∨ P.underlying X = some .string
  wide : 0 < bytes

def appOk (P : Program) (T X E : TypeId) (size bytes : Nat) : Bool :=
  match P.underlying T, P.info? E, P.underlying X with
  | some (.slice e), some i, some d => Nat.beq e E && Nat.beq i.size size && Nat.beq i.bytes bytes && (match i.zero with | some z => Nat.beq z.cells.size size | none => false) && Nat.blt 0 size && Nat.blt 0 bytes &&
    (match d with | .slice _ => true | .string => true | _ => false)
  | _, _, _ => false
theorem AppT.of {P : Program} {T X E : TypeId} {size bytes : Nat} (h : appOk P T X E size bytes = true) : AppT P T X E size bytes := by
  unfold appOk at h
  split at h
  · rename_i e i d h1 h2 h3
    simp only [Bool.and_eq_true] at h
    obtain ⟨⟨⟨⟨⟨⟨he, hs⟩, hb⟩, hz⟩, hp⟩, hw⟩, hd⟩ := h
    have he := Nat.eq_of_beq_eq_true he
    have hs := Nat.eq_of_beq_eq_true hs
    have hb := Nat.eq_of_beq_eq_true hb
    subst he
    split at hz
    · rename_i z hzz
      refine ⟨h1, ⟨i, z, h2, hs, hb, hzz, Nat.eq_of_beq_eq_true hz⟩, by simpa [Nat.blt_eq] using hp, ?_, by simpa [Nat.blt_eq] using hw⟩
      split at hd
      · exact .inl ⟨_, h3⟩
      · exact .inr h3
      · cases hd
    · cases hz
  · cases h

theorem growBy_le (n : Nat) : ∀ r c, Builtin.growBy n r c ≤ max c (n + (n + 768) / 4) := by
  intro r
  induction r with
  | zero => intro c; simp [Builtin.growBy]; omega
  | succ r ih =>
    intro c
    simp only [Builtin.growBy]
    split
    · omega
    · have := ih (c + (c + 768) / 4); omega
theorem nextslicecap_le {need old : Nat} (h : old < need) : Builtin.nextslicecap need old ≤ 2 * need + 512 := by
  unfold Builtin.nextslicecap
  split
  · omega
  · split
    · omega
    · have := growBy_le need 4 old; omega

theorem zeroCells_size (z : Array Value) (n : Nat) : (Builtin.zeroCells z n).size = n * z.size := by simp [Builtin.zeroCells]

theorem wrArr_append (cs rest news : List Value) (h : news.length ≤ rest.length) : wrArr (cs ++ rest).toArray cs.length news = ((cs ++ news) ++ rest.drop news.length).toArray := by
  apply Array.ext_getElem?
  intro i
  rw [wrArr_get]
  simp only [List.size_toArray, List.length_append, List.getElem?_toArray]
  by_cases h1 : i < cs.length
  · rw [if_neg (by omega)]; simp [List.getElem?_append, h1, Nat.lt_add_right]
  · by_cases h2 : i < cs.length + news.length
    · rw [if_pos (by omega)]
      simp only [List.getElem?_append, h1, List.length_append, h2, if_true, if_false]
    · rw [if_neg (by omega)]
      simp only [List.getElem?_append, h1, List.length_append, h2, if_false, List.getElem?_drop]
      congr 1; omega

section
variable {P : Program}

theorem run_drew {α : Type} {q : Question} {k : Nat → Sem α} {w : World} (hq : q.forced = false) :
    (Sem.choose q k).run P w = (k (q.cut (w.tape w.drawn q))).run P w.drew := by
  simp only [Sem.run, hq, Bool.false_eq_true, if_false]; rfl

theorem run_firstCells {w : World} {size m : Nat} {x : Value} {news : List Value} (h : Src w size x m news) : (Builtin.firstCells size m x).run P w = .ok news.toArray w := by
  obtain ⟨h1, h2, h3⟩ := h
  rcases h3 with ⟨base, n, cap, rfl, rfl, h3⟩ | ⟨s, rfl, rfl, rfl, rfl⟩
  · rcases h3 with rfl | ⟨a, rfl, hspot, _, x, hx, hc⟩
    · cases base with
      | none => rfl
      | some a =>
        simp only [Builtin.firstCells, loadCells, ← h1]
        rfl
    · obtain ⟨b, o, sp⟩ := a
      simp only at hspot; subst hspot
      simp only [Builtin.firstCells, loadCells, ← h1]
      rcases Nat.eq_zero_or_pos news.length with hz | hz
      · have : news = [] := List.eq_nil_of_length_eq_zero hz
        subst this; rfl
      have hle : o + 0 + news.length ≤ x.1.size := by
        have := hc (news.length - 1) (by omega)
        have hs : (news[news.length - 1]?).isSome := by simp; omega
        rw [← this] at hs
        rcases Nat.lt_or_ge (o + (news.length - 1)) x.1.size with h | h
        · omega
        · rw [Array.getElem?_eq_none h] at hs; simp at hs
      rw [run_loadCells hx news.length 0 #[] hle]
      congr 1
      apply Array.ext_getElem?
      intro i
      by_cases hi : i < news.length
      · have := hc i hi
        simp only [Array.empty_append, Array.getElem?_extract, List.getElem?_toArray, Nat.add_zero]
        rw [← this]; simp; omega
      · have : news.toArray[i]? = none := by simp; omega
        rw [this]; simp; omega
  · simp only [Builtin.firstCells, Sem.run_pure]
    congr 1
    have he : s.extract 0 s.size = s := by simp
    rw [he]
    apply Array.ext_getElem?
    intro i
    simp only [Array.getElem?_map, List.getElem?_toArray, List.getElem?_map, bytesOf, Array.getElem?_toList]
    rfl

theorem run_lenOf {w : World} {size m : Nat} {x : Value} {news : List Value} (h : Src w size x m news) : (Builtin.lenOf x).run P w = .ok m w := by
  obtain ⟨h1, h2, h3⟩ := h
  rcases h3 with ⟨base, n, cap, rfl, rfl, h3⟩ | ⟨s, rfl, rfl, rfl, rfl⟩ <;> rfl

theorem Own.seg {B : Nat} {w : World} {E : TypeId} {size : Nat} {v : Value} {n : Nat} {cs : List Value} (h : Own B w E size v n cs) (hf : cs.all flat = true) : Src w size v n cs := by
  refine ⟨h.1, hf, .inl ?_⟩
  rcases h.2 with ⟨rfl, h0⟩ | ⟨g, cap, rest, fr, rfl, _, h3, _, _, _⟩
  · subst h0; exact ⟨_, _, _, rfl, rfl, .inl (List.eq_nil_of_length_eq_zero (by simpa using h.1))⟩
  · refine ⟨_, _, _, rfl, rfl, .inr ⟨_, rfl, rfl, trivial, _, h3, fun i hi => ?_⟩⟩
    simp only [Nat.zero_add, List.getElem?_toArray, List.getElem?_append, hi, if_true]

theorem Src.blk {w : World} {size g m c : Nat} {cs : List Value} {T : TypeId} {fr : Nat × Nat} (h : blk w g = some (cs.toArray, T, fr)) (hl : cs.length = m * size) (hf : cs.all flat = true) : Src w size (.slice (some ⟨g, 0, none⟩) m c) m cs :=
  ⟨hl, hf, .inl ⟨_, _, _, rfl, rfl, .inr ⟨_, rfl, rfl, trivial, _, h, fun i _ => by simp⟩⟩⟩
theorem Own.blk {B : Nat} {w : World} {E : TypeId} {size g n : Nat} {cs : List Value} (h : Ms.blk w g = some (cs.toArray, E, (0, 0))) (hl : cs.length = n * size) (hB : B ≤ g) : Own B w E size (.slice (some ⟨g, 0, none⟩) n n) n cs :=
  ⟨hl, .inr ⟨g, n, [], (0, 0), rfl, hB, by simpa using h, by simpa using hl, by simp [thaw, Nat.ble], Nat.le_refl _⟩⟩
theorem Own.mono {B B' : Nat} {w : World} {E : TypeId} {size : Nat} {v : Value} {n : Nat} {cs : List Value} (h : Own B w E size v n cs) (hB : B' ≤ B) : Own B' w E size v n cs :=
  ⟨h.1, h.2.imp id fun ⟨g, cap, rest, fr, h1, h2, h3⟩ => ⟨g, cap, rest, fr, h1, Nat.le_trans hB h2, h3⟩⟩
/-- An own slice of octets. -/
abbrev OwnBy (E : TypeId) (B : Nat) (w : World) (v : Value) (s : List UInt8) : Prop := Own B w E 1 v s.length (s.map byteV)

theorem keeps_drew (w : World) : Keeps AnyB w w.drew := fun _ _ _ => rfl

theorem run_append_prefix {T X E : TypeId} {size bytes : Nat} (F : AppT P T X E size bytes) {w : World} {a : Option Addr} {n cap m : Nat} {x : Value} {news : List Value} (hx : Src w size x m news) (hle : n + m ≤ cap ∨ Builtin.nextslicecap (n + m) cap * bytes ≤ 2 ^ 48) (ty : TypeId) {ei : TypeInfo} (hi : P.info? E = some ei) (hby : ei.bytes = bytes) (hsz : ei.size = size) :
    (Builtin.append_ #[T, X] ty #[.slice a n cap, x]).run P w =
      if n + m ≤ cap then (do
        let new ← Builtin.firstCells size m x
        if let some a := a then storeCells (a.add (n * size)) new.toList
        pure (.slice a (n + m) cap) : Sem Value).run P w
      else (do
        let newCap ← choose (.appendCap (n + m) cap E)
        askRoom (newCap * bytes)
        let old ← Builtin.firstCells size n (.slice a n cap)
        let new ← Builtin.firstCells size m x
        let rest := Builtin.zeroCells (← zeroValue E).cells (newCap - (n + m))
        pure (.slice (some (← newRow E (old ++ new ++ rest))) (n + m) newCap) : Sem Value).run P w := by
  have hb0 : (bytes = 0) = False := by simp [Nat.pos_iff_ne_zero.1 F.wide]
  rcases F.noInt with ⟨e', hd⟩ | hd
  all_goals
    simp only [Builtin.append_, List.getElem?_toArray, List.getElem?_cons_zero, List.getElem?_cons_succ, Sem.run_bind, run_underlying F.slice, Result.andThen_ok, run_sizeOf hi, run_underlying hd, Sem.run_pure, Bool.false_eq_true, if_false, run_lenOf hx, hsz]
    split
    · simp only [Bool.not_false, if_true, Sem.run_bind]
      rfl
    · simp only [Bool.not_false, if_true, Sem.run_bind, run_typeInfo hi, Result.andThen_ok, hb0, hby, false_or, and_false, if_false, Sem.run_pure]
      rename_i hn
      rw [if_neg (by have := hle.resolve_left hn; omega)]
      simp only [Sem.run_bind]
      congr 1
      funext q w'
      simp only [run_typeInfo hi, Result.andThen_ok, hby, Sem.run_pure]

/-- From what comes in (n elements, cells cs) m elements more, whose cells are news. -/
theorem run_append {T X E : TypeId} {size bytes : Nat} (F : AppT P T X E size bytes) {B : Nat} {w : World} {v x : Value} {n m : Nat} {cs news : List Value}
    (ho : Own B w E size v n cs) (hf : cs.all flat = true) (hx : Src w size x m news) (hB : B ≤ w.heap.size) (hb : (2 * (n + m) + 512) * bytes ≤ 2 ^ 48) (ty : TypeId) :
    ∃ v' w', (Builtin.append_ #[T, X] ty #[v, x]).run P w = .ok v' w' ∧ Own B w' E size v' (n + m) (cs ++ news) ∧ Upd (ownB v) w w' ∧ (∀ b, ownB v' b → ownB v b ∨ w.heap.size ≤ b) := by
  obtain ⟨ei, z, hi, hsz, hby, hz, hzs⟩ := F.info
  have hlen : cs.length = n * size := ho.1
  have hnews : news.length = m * size := hx.1
  have hself := ho.seg hf
  obtain ⟨a, cap, hv, hcap⟩ := ho.shape
  subst hv
  have hmul : n + m ≤ cap ∨ Builtin.nextslicecap (n + m) cap * bytes ≤ 2 ^ 48 := by
    rcases Nat.lt_or_ge cap (n + m) with h | h
    · exact .inr (Nat.le_trans (Nat.mul_le_mul_right _ (nextslicecap_le h)) hb)
    · exact .inl h
  rw [run_append_prefix F hx hmul ty hi hby hsz]
  by_cases hin : n + m ≤ cap
  · rw [if_pos hin]
    rcases ho.2 with ⟨h1, h0⟩ | ⟨g, cap', rest, fr, h1, h2, h3, h4, h5, h6⟩
    · cases h1
      have hm : m = 0 := by omega
      subst hm
      have hn : news = [] := List.eq_nil_of_length_eq_zero (by simpa using hnews)
      have hc : cs = [] := List.eq_nil_of_length_eq_zero (by simpa using hlen)
      subst hn; subst hc
      refine ⟨.slice none 0 0, w, ?_, ⟨by simp, .inl ⟨rfl, rfl⟩⟩, Upd.refl _ _, fun b hb => .inl hb⟩
      simp only [Sem.run_bind, run_firstCells hx, Result.andThen_ok, Sem.run_pure]
    · cases h1
      have hle : news.length ≤ rest.length := by
        have : (n + m) * size ≤ cap * size := Nat.mul_le_mul_right _ hin
        rw [Nat.add_mul] at this
        omega
      have hth : fr.2 ≤ 0 ∨ 0 + cap * size ≤ fr.1 := by simpa [thaw, Nat.ble_eq] using h5
      have hst := run_storeCells (P := P) news w (n * size) 0 _ h3 (by simp; omega) (by simp only []; omega) hx.2.1
      simp only [Nat.add_zero] at hst
      refine ⟨.slice (some ⟨g, 0, none⟩) (n + m) cap, wr w g (n * size) news, ?_, ⟨by simp [hlen, hnews, Nat.add_mul], .inr ⟨g, cap, rest.drop news.length, fr, rfl, h2, ?_, by simp; omega, h5, hin⟩⟩, ?_, fun b hb => .inl ?_⟩
      · simp only [Sem.run_bind, run_firstCells hx, Result.andThen_ok, add_plain, Nat.zero_add, hst, Sem.run_pure]
      · rw [blk_wr_eq, h3, ← hlen]
        simp only [Option.map_some, wrArr_append cs rest news hle]
      · exact Upd.wr (Upd.refl _ _) _ _ (.inr ⟨_, _, _, rfl, rfl⟩)
      · obtain ⟨a, k, c, hb, rfl⟩ := hb
        cases hb; exact ⟨_, _, _, rfl, rfl⟩
  · rw [if_neg hin]
    have hx' := hx.keep (keeps_drew w)
    have hs' := hself.keep (keeps_drew w)
    simp only [Sem.run_bind, choose]
    rw [run_drew rfl]
    generalize hq : (Question.appendCap (n + m) cap E).cut (w.tape w.drawn (Question.appendCap (n + m) cap E)) = q
    have hqn : n + m ≤ q := by rw [← hq]; simp only [Question.cut]; omega
    have hask : (askRoom (q * bytes)).run P w.drew = .ok () w.drew := by
      unfold askRoom; split <;> rfl
    simp only [Sem.run_pure', Result.andThen_ok, hask, run_firstCells hs', run_firstCells hx', run_zero hi hz, newRow, newObj, Sem.run, Sem.run_bind, Sem.run_pure]
    have hzl := zeroCells_size z.cells (q - (n + m))
    refine ⟨_, _, rfl, ⟨by simp [hlen, hnews, Nat.add_mul], .inr ⟨w.heap.size, q, (Builtin.zeroCells z.cells (q - (n + m))).toList, (0, 0), rfl, hB, ?_, ?_, by simp [thaw, Nat.ble], hqn⟩⟩, ?_, fun b hb => .inr ?_⟩
    · have := blk_alloc_new (w := w.drew) (c := (cs.toArray ++ news.toArray ++ Builtin.zeroCells z.cells (q - (n + m)))) (T := E) (fr := (0, 0)) (b := w.heap.size) rfl
      refine this.trans ?_
      congr 2
      simp
    · have hz2 : (Builtin.zeroCells z.cells (q - (n + m))).toList.length = (q - (n + m)) * size := by rw [Array.length_toList, hzl, hzs]
      have hl2 : (cs ++ news).length = n * size + m * size := by rw [List.length_append, hlen, hnews]
      rw [hz2, hl2]
      rw [← Nat.add_mul, ← Nat.add_mul]
      congr 1; omega
    · exact (Upd.refl _ w).drew.alloc _
    · obtain ⟨a, k, c, hb, rfl⟩ := hb
      cases hb; exact Nat.le_refl _

/-- The walk's step at an append. -/
theorem wp_append {T X E : TypeId} {size bytes : Nat} (F : AppT P T X E size bytes) {B : Nat} {w : World} {ρ : Regs} {d : Option Nat} {x y : Operand} {type : TypeId} {pos : String} {after : Array Edge} {guard : Option (Nat × Bool)} {K : Regs → World → Prop} {v u : Value} {n m : Nat} {cs news : List Value}
    (hv : ev ρ x = v) (hu : ev ρ y = u)
    (ho : Own B w E size v n cs) (hf : cs.all flat = true) (hx : Src w size u m news) (hB : B ≤ w.heap.size) (hb : (2 * (n + m) + 512) * bytes ≤ 2 ^ 48)
    (hk : ∀ v' w', Own B w' E size v' (n + m) (cs ++ news) → Upd (ownB v) w w' → (∀ b, ownB v' b → ownB v b ∨ w.heap.size ≤ b) → K (put ρ d v') w') :
    rawK P { dst := d, op := .call { callee := .builtin .append, args := #[x, y], argTypes := #[T, X] }, type := type, pos := pos, after := after, guard := guard } ρ w K := by
  refine ⟨?_⟩
  obtain ⟨v', w', h1, h2, h3, h4⟩ := run_append F ho hf hx hB hb type
  have : (execOp (ev ρ) { dst := d, op := .call { callee := .builtin .append, args := #[x, y], argTypes := #[T, X] }, type := type, pos := pos, after := after, guard := guard }).run P w = .ok (.value v') w' := by
    simp only [execOp, resolve, Sem.run_bind, Sem.run_pure, Result.andThen_ok, invoke, builtin, List.map_toArray, List.map_cons, List.map_nil, hv, hu, h1]
  rw [this]
  exact hk v' w' h2 h3 h4

end
end Ms
