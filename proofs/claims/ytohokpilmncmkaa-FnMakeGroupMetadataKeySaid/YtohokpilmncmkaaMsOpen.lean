/- An argument that is read as data is a tree in memory, with lists no longer than memory is. -/
import Derived.Test.YtohokpilmncmkaaMsFit
import Derived.ProofKit
import Derived.SizedLaws
set_option linter.unusedSimpArgs false
set_option linter.unusedVariables false
namespace Ms
open Go

section
variable {H : Type} {enc : TypeId × Value → H} {P : Program} {w : World} {base : Nat} {spare : Nat → Bool} {held : Bool}

theorem all_choice {α : Type} {n : Nat} {R : Nat → α → Prop} (h : ∀ i, i < n → ∃ a, R i a) : ∃ l : List α, l.length = n ∧ ∀ i (hi : i < l.length), R i l[i] := by
  refine ⟨List.ofFn fun i : Fin n => Classical.choose (h i.1 i.2), by simp, fun i hi => ?_⟩
  simp only [List.getElem_ofFn]
  exact Classical.choose_spec (h i (by simpa using hi))

theorem cells?_spec {a : Addr} {n : Nat} {cs : List Value} (h : w.cells? base a n = some cs) : cs.length = n ∧ ∀ k, k < n → w.cell? (a.add k) = cs[k]? := by
  unfold World.cells? at h
  split at h
  · refine ⟨by simpa using mapM_some_length h, fun k hk => ?_⟩
    exact mapM_some_get h k k (by simp [hk])
  · cases h

theorem sl_elems {size : Nat} (hsz : 0 < size) {a : Addr} {len cap : Nat} (hcap : len ≤ cap) {R : Nat → List Value → Prop} (h : ∀ i, i < len → ∃ cs, w.cells? base (a.add (i * size)) size = some cs ∧ R i cs) :
    ∃ css, Sl AnyB w size (.slice (some a) len cap) css ∧ css.length = len ∧ ∀ i (hi : i < css.length), R i css[i] := by
  obtain ⟨css, hl, hc⟩ := all_choice h
  refine ⟨css, ?_, hl, fun i hi => (hc i hi).2⟩
  have hs : ∀ cs ∈ css, cs.length = size := fun cs hm => by
    obtain ⟨i, hi, rfl⟩ := List.getElem_of_mem hm
    exact (cells?_spec (hc i hi).1).1
  refine ⟨some a, cap, by rw [hl], by omega, hs, ?_⟩
  rcases Nat.eq_zero_or_pos len with h0 | h0
  · exact .inl (List.eq_nil_of_length_eq_zero (by omega))
  · right
    have key : ∀ i (hi : i < css.length) k, k < size → w.cell? ((a.add (i * size)).add k) = (css[i])[k]? := fun i hi k hk => (cells?_spec (hc i hi).1).2 k hk
    obtain ⟨b, o, sp⟩ := a
    have h00 := key 0 (by omega) 0 hsz
    have hlen0 : (css[0]'(by omega)).length = size := hs _ (List.getElem_mem _)
    rw [Nat.zero_mul] at h00
    have hsp : sp = none := by
      cases sp with
      | none => rfl
      | some s =>
        exfalso
        have : w.cell? ((Addr.add ⟨b, o, some s⟩ 0).add 0) = none := by
          show w.cell? ⟨b, o, some s⟩ = none
          unfold World.cell?
          split <;> rfl
        rw [this, List.getElem?_eq_getElem (by omega)] at h00
        cases h00
    subst hsp
    have hadd : ∀ i k, ((⟨b, o, none⟩ : Addr).add i).add k = ⟨b, o + (i + k), none⟩ := fun i k => by
      unfold Addr.add
      split <;> split <;> first | rfl | (subst_vars; rfl) | (rename_i h1 h2; first | rw [h1] | rw [h2]) | skip
      all_goals simp_all [Nat.add_assoc]
    have key2 : ∀ i (hi : i < css.length) k, k < size → (blk w b).bind (fun x => x.1[o + (i * size + k)]?) = (css[i])[k]? := fun i hi k hk => by
      have := key i hi k hk
      rw [hadd, cell?_blk] at this
      exact this
    have hx : ∃ x, blk w b = some x := by
      have h := key2 0 (by omega) 0 hsz
      rw [List.getElem?_eq_getElem (l := css[0]'(by omega)) (by omega)] at h
      obtain ⟨x, hx, _⟩ := Option.bind_eq_some_iff.1 h
      exact ⟨x, hx⟩
    obtain ⟨x, hx⟩ := hx
    refine ⟨_, rfl, rfl, trivial, x, hx, fun j hj => ?_⟩
    have hfl := flatten_len hs
    have hq : j / size < css.length := by
      rw [Nat.div_lt_iff_lt_mul hsz]; omega
    have hm := Nat.mod_lt j hsz
    have e : j = j / size * size + j % size := by rw [Nat.mul_comm]; exact (Nat.div_add_mod j size).symm
    have h1 := key2 _ hq _ hm
    have h2 := flatten_get hs _ hq _ hm
    rw [hx, Option.bind_some, ← e] at h1
    rw [← e] at h2
    rw [h1, h2]

/-- What the reference's types are. -/
structure TreeTy (P : Program) (y B N K S G U T L : TypeId) : Prop where
  uy : P.underlying y = some (.int .u8)
  cy : P.cellsOf y = 1
  b_y : P.bytesOf y = 1
  uB : P.underlying B = some .bool
  cB : P.cellsOf B = 1
  uN : P.underlying N = some (.int .i64)
  cN : P.cellsOf N = 1
  uK : P.underlying K = some (.int .u32)
  cK : P.cellsOf K = 1
  uS : P.underlying S = some (.slice y)
  cS : P.cellsOf S = 1
  uG : ∃ fs, P.underlying G = some (.struct fs) ∧ fs.toList.map (fun f => (f.type, f.offset)) = [(K, 0), (S, 1)]
  cG : P.cellsOf G = 2
  bG : P.bytesOf G = 32
  uU : P.underlying U = some (.slice G)
  cU : P.cellsOf U = 1
  uT : ∃ fs, P.underlying T = some (.struct fs) ∧ fs.toList.map (fun f => (f.type, f.offset)) = [(N, 0), (S, 1), (B, 2), (L, 3), (U, 4)]
  cT : P.cellsOf T = 5
  bT : P.bytesOf T = 88
  uL : P.underlying L = some (.slice T)
  cL : P.cellsOf L = 1

/-- The bound on what is read. -/
def Fits (P : Program) (t : TypeId) (d : DataW H) : Prop := (d.weights P t).all (· ≤ reachBytes) = true

theorem fits_all {e : TypeId} {ds : List (DataW H)} (h : (DataW.weightsAll P e ds).all (· ≤ reachBytes) = true) : ∀ d ∈ ds, Fits P e d := by
  induction ds with
  | nil => intro d hd; cases hd
  | cons x xs ih =>
    simp only [DataW.weightsAll, List.all_append, Bool.and_eq_true] at h
    intro d hd
    rcases List.mem_cons.1 hd with rfl | hd
    · exact h.1
    · exact ih h.2 d hd
theorem fits_slice {t e : TypeId} (ht : P.underlying t = some (.slice e)) {elems sp : List (DataW H)} (h : Fits P t (.slice elems sp)) : (elems.length + sp.length) * P.bytesOf e ≤ reachBytes ∧ ∀ d ∈ elems, Fits P e d := by
  unfold Fits at h
  rw [DataW.weights] at h
  simp only [ht, List.all_cons, List.all_append, Bool.and_eq_true, decide_eq_true_eq] at h
  exact ⟨h.1, fits_all h.2.1⟩
theorem fits_each : ∀ {ts : List TypeId} {ds : List (DataW H)}, (DataW.weightsEach P ts ds).all (· ≤ reachBytes) = true → ∀ (i : Nat) (t : TypeId) (d : DataW H), ts[i]? = some t → ds[i]? = some d → Fits P t d
  | [], _, _, i, t, d, h1, _ => by simp at h1
  | _ :: _, [], _, i, t, d, _, h2 => by simp at h2
  | t0 :: ts, d0 :: ds, h, i, t, d, h1, h2 => by
    rw [DataW.weightsEach, List.all_append, Bool.and_eq_true] at h
    cases i with
    | zero =>
      simp only [List.getElem?_cons_zero, Option.some.injEq] at h1 h2
      subst h1; subst h2
      exact h.1
    | succ i =>
      simp only [List.getElem?_cons_succ] at h1 h2
      exact fits_each h.2 i t d h1 h2
theorem fits_struct {t : TypeId} {fs : Array Field} (ht : P.underlying t = some (.struct fs)) {parts : List (DataW H)} (h : Fits P t (.agg parts)) : ∀ (i : Nat) (f : Field) (d : DataW H), fs[i]? = some f → parts[i]? = some d → Fits P f.type d := by
  intro i f d h1 h2
  unfold Fits at h
  rw [DataW.weights] at h
  simp only [ht] at h
  exact fits_each h i f.type d (by simp [h1]) h2

theorem trod_int' {t : TypeId} {k : IntKind} {fuel : Nat} {cs : List Value} {x : DataW H × List MemPlace} (ht : P.underlying t = some (.int k)) (h : DataW.trod enc P w base spare held fuel t cs = some x) :
    ∃ n, cs = [.int k n] ∧ (Lit.int k n).wf = true := by
  obtain ⟨n, h1, _, h2⟩ := DataW.trod_int ht h
  exact ⟨n, h1, h2⟩
theorem wf_wrap_eq {k : IntKind} {n : Int} (h : (Lit.int k n).wf = true) : k.wrap n = n := by
  simp only [Lit.wf, Bool.and_eq_true, decide_eq_true_eq] at h
  cases k <;> simp [IntKind.wrap, IntKind.min, IntKind.max, IntKind.signed, IntKind.bits] at h ⊢ <;> (try split) <;> omega
theorem trod_bool' {t : TypeId} {fuel : Nat} {cs : List Value} {x : DataW H × List MemPlace} (ht : P.underlying t = some .bool) (h : DataW.trod enc P w base spare held fuel t cs = some x) :
    ∃ b, cs = [.bool b] := by
  cases fuel with
  | zero => simp [DataW.trod] at h
  | succ n =>
    unfold DataW.trod at h
    rw [ht] at h
    split at h <;> simp_all

theorem struct_get {fs : Array Field} {l : List (TypeId × Nat)} (h : fs.toList.map (fun f => (f.type, f.offset)) = l) (i : Nat) (t : TypeId) (o : Nat) (hi : l[i]? = some (t, o)) : ∃ f, fs[i]? = some f ∧ f.type = t ∧ f.offset = o := by
  rw [← h, List.getElem?_map, Option.map_eq_some_iff] at hi
  obtain ⟨f, hf, e⟩ := hi
  exact ⟨f, by simpa using hf, (Prod.mk.inj e).1, (Prod.mk.inj e).2⟩

theorem open_bytes' {y S : TypeId} (hy : P.underlying y = some (.int .u8)) (cy : P.cellsOf y = 1) (b_y : P.bytesOf y = 1) (hS : P.underlying S = some (.slice y)) {fuel : Nat} {cs : List Value} {x : DataW H × List MemPlace} (h : DataW.trod enc P w base spare held fuel S cs = some x) (hf : Fits P S x.1) :
    ∃ v s, cs = [v] ∧ BytesV AnyB w v s ∧ s.length ≤ 140737488351232 := by
  rcases DataW.trod_slice hS h with ⟨rfl, rfl⟩ | ⟨a, len, cap, elems, rest, n, rfl, rfl, rfl, h1, h2, h3, h4, h5, h6, h7⟩
  · exact ⟨_, [], rfl, ⟨none, 0, rfl, Nat.le_refl _, by simp, .inl rfl⟩, by simp⟩
  · have hfs := fits_slice hS hf
    simp only [List.length_map, b_y, reachBytes] at hfs
    obtain ⟨css, hc1, hc2, hc3⟩ := sl_elems (w := w) (base := base) (size := 1) (by omega) (a := a) (len := len) (cap := cap) h2 (R := fun i cs => ∃ b, ByteC b cs) (fun i hi => by
      have := h5 i hi
      rw [cy, List.getElem?_eq_getElem (by omega)] at this
      obtain ⟨cs, hcs, ht⟩ := Option.bind_eq_some_iff.1 this
      obtain ⟨n', rfl, hw⟩ := trod_int' hy ht
      refine ⟨_, hcs, UInt8.ofNat n'.toNat, ?_⟩
      simp only [Lit.wf, Bool.and_eq_true, decide_eq_true_eq, IntKind.min, IntKind.max, IntKind.signed, IntKind.bits] at hw
      unfold ByteC byteV
      congr 2
      simp only [UInt8.toNat_ofNat']
      simp at hw
      omega)
    obtain ⟨s, hs1, hs2⟩ := all_choice (n := css.length) (R := fun i b => ∀ hi : i < css.length, ByteC b css[i]) (fun i hi => by obtain ⟨b, hb⟩ := hc3 i hi; exact ⟨b, fun _ => hb⟩)
    refine ⟨_, s, rfl, ?_, by omega⟩
    have : css = s.map fun b => [byteV b] := by
      apply List.ext_getElem
      · simp [hs1]
      · intro i g1 g2
        simp only [List.getElem_map]
        exact hs2 i (by omega) g1
    rw [this] at hc1
    exact hc1

variable {y B N K S G U T L : TypeId}
theorem open_tag' (F : TreeTy P y B N K S G U T L) {fuel : Nat} {cs : List Value} {x : DataW H × List MemPlace} (h : DataW.trod enc P w base spare held fuel G cs = some x) (hf : Fits P G x.1) :
    ∃ u, TagC AnyB w u cs ∧ u.2.length ≤ 140737488351232 := by
  obtain ⟨fs, hfs, hl⟩ := F.uG
  obtain ⟨xs, n, rfl, rfl, h1, h2, h3⟩ := DataW.trod_struct hfs h
  have hff := fits_struct hfs hf
  obtain ⟨f0, g0, e0, o0⟩ := struct_get hl 0 K 0 rfl
  obtain ⟨f1, g1, e1, o1⟩ := struct_get hl 1 S 1 rfl
  have hsz : xs.length = 2 := by rw [h2]; simpa using congrArg List.length hl
  have k0 := h3 0 f0 g0
  have k1 := h3 1 f1 g1
  rw [e0, o0, F.cK, List.getElem?_eq_getElem (by omega)] at k0
  rw [e1, o1, F.cS, List.getElem?_eq_getElem (by omega)] at k1
  obtain ⟨m, hm, hw⟩ := trod_int' F.uK k0
  obtain ⟨v, s, hv, hb, hsl⟩ := open_bytes' F.uy F.cy F.b_y F.uS k1 (by
    have := hff 1 f1 (xs[1].1) g1 (by simp [List.getElem?_eq_getElem (show 1 < xs.length by omega)])
    rw [e1] at this; exact this)
  rw [F.cG] at h1
  obtain ⟨c0, c1, rfl⟩ : ∃ a b, cs = [a, b] := by
    match cs, h1 with
    | [a, b], _ => exact ⟨_, _, rfl⟩
  · simp only [List.drop_zero, List.take_succ_cons, List.take_zero, List.drop_succ_cons, List.cons.injEq, and_true] at hm hv
    subst hm; subst hv
    simp only [Lit.wf, Bool.and_eq_true, decide_eq_true_eq, IntKind.min, IntKind.max, IntKind.signed, IntKind.bits] at hw
    simp at hw
    refine ⟨(m.toNat, s), ⟨c1, ?_, hb, by simp only; omega⟩, hsl⟩
    simp only [List.cons.injEq, Value.int.injEq, true_and, and_true]
    omega

theorem open_tree' (F : TreeTy P y B N K S G U T L) : ∀ (fuel : Nat) {cs : List Value} {x : DataW H × List MemPlace}, DataW.trod enc P w base spare held fuel T cs = some x → Fits P T x.1 →
    ∃ t, TreeC AnyB w t cs ∧ Small 140737488351232 t := by
  intro fuel
  induction fuel using Nat.strongRecOn with
  | _ fuel ih =>
  intro cs x h hf
  obtain ⟨fs, hfs, hl⟩ := F.uT
  obtain ⟨xs, n, rfl, rfl, h1, h2, h3⟩ := DataW.trod_struct hfs h
  have hff := fits_struct hfs hf
  obtain ⟨f0, g0, e0, o0⟩ := struct_get hl 0 N 0 rfl
  obtain ⟨f1, g1, e1, o1⟩ := struct_get hl 1 S 1 rfl
  obtain ⟨f2, g2, e2, o2⟩ := struct_get hl 2 B 2 rfl
  obtain ⟨f3, g3, e3, o3⟩ := struct_get hl 3 L 3 rfl
  obtain ⟨f4, g4, e4, o4⟩ := struct_get hl 4 U 4 rfl
  have hsz : xs.length = 5 := by rw [h2]; simpa using congrArg List.length hl
  have k0 := h3 0 f0 g0
  have k1 := h3 1 f1 g1
  have k2 := h3 2 f2 g2
  have k3 := h3 3 f3 g3
  have k4 := h3 4 f4 g4
  rw [e0, o0, F.cN, List.getElem?_eq_getElem (by omega)] at k0
  rw [e1, o1, F.cS, List.getElem?_eq_getElem (by omega)] at k1
  rw [e2, o2, F.cB, List.getElem?_eq_getElem (by omega)] at k2
  rw [e3, o3, F.cL, List.getElem?_eq_getElem (by omega)] at k3
  rw [e4, o4, F.cU, List.getElem?_eq_getElem (by omega)] at k4
  have fit : ∀ i (hi : i < xs.length) f t, fs[i]? = some f → f.type = t → Fits P t xs[i].1 := fun i hi f t hg he => by
    have := hff i f (xs[i].1) hg (by simp [List.getElem?_eq_getElem hi])
    rw [he] at this; exact this
  obtain ⟨m, hm, hw⟩ := trod_int' F.uN k0
  obtain ⟨v, s, hv, hb, hsl⟩ := open_bytes' F.uy F.cy F.b_y F.uS k1 (fit 1 (by omega) f1 S g1 e1)
  obtain ⟨bb, hbb⟩ := trod_bool' F.uB k2
  have fL := fit 3 (by omega) f3 L g3 e3
  have fU := fit 4 (by omega) f4 U g4 e4
  have hLx : ∃ vL l, ((cs.drop 3).take 1) = [vL] ∧ TreesV AnyB w vL l ∧ l.length ≤ 140737488351232 ∧ ∀ i (hi : i < l.length), Small 140737488351232 l[i] := by
    rcases DataW.trod_slice F.uL k3 with ⟨hc, hx⟩ | ⟨a, len, cap, elems, rest, n', hn', hc, hx, q1, q2, q3, q4, q5, q6, q7⟩
    · exact ⟨_, [], hc, ⟨[], ⟨none, 0, rfl, Nat.le_refl _, by simp, .inl rfl⟩, rfl, fun i h => by simp at h⟩, by simp, fun i h => by simp at h⟩
    · rw [hx] at fL
      have hfs := fits_slice F.uL fL
      simp only [List.length_map, F.bT, reachBytes] at hfs
      obtain ⟨css, hc1, hc2, hc3⟩ := sl_elems (w := w) (base := base) (size := 5) (by omega) (a := a) (len := len) (cap := cap) q2 (R := fun i cs => ∃ t, TreeC AnyB w t cs ∧ Small 140737488351232 t) (fun i hi => by
        have := q5 i hi
        rw [F.cT, List.getElem?_eq_getElem (by omega)] at this
        obtain ⟨cs', hcs, ht⟩ := Option.bind_eq_some_iff.1 this
        exact ⟨_, hcs, ih n' (by omega) ht (hfs.2 _ (List.mem_map.2 ⟨_, List.getElem_mem _, rfl⟩))⟩)
      obtain ⟨l, hs1, hs2⟩ := all_choice (n := css.length) (R := fun i t => ∀ hi : i < css.length, TreeC AnyB w t css[i] ∧ Small 140737488351232 t) (fun i hi => by obtain ⟨t, ht⟩ := hc3 i hi; exact ⟨t, fun _ => ht⟩)
      refine ⟨_, l, hc, ⟨css, hc1, hs1, fun i g1 g2 => (hs2 i g1 g2).1⟩, by omega, fun i hi => (hs2 i hi (by omega)).2⟩
  have hUx : ∃ vU u, ((cs.drop 4).take 1) = [vU] ∧ TagsV AnyB w vU u ∧ u.length ≤ 140737488351232 ∧ ∀ x ∈ u, x.2.length ≤ 140737488351232 := by
    rcases DataW.trod_slice F.uU k4 with ⟨hc, hx⟩ | ⟨a, len, cap, elems, rest, n', hn', hc, hx, q1, q2, q3, q4, q5, q6, q7⟩
    · exact ⟨_, [], hc, ⟨[], ⟨none, 0, rfl, Nat.le_refl _, by simp, .inl rfl⟩, rfl, fun i h => by simp at h⟩, by simp, fun x h => by simp at h⟩
    · rw [hx] at fU
      have hfs := fits_slice F.uU fU
      simp only [List.length_map, F.bG, reachBytes] at hfs
      obtain ⟨css, hc1, hc2, hc3⟩ := sl_elems (w := w) (base := base) (size := 2) (by omega) (a := a) (len := len) (cap := cap) q2 (R := fun i cs => ∃ t, TagC AnyB w t cs ∧ t.2.length ≤ 140737488351232) (fun i hi => by
        have := q5 i hi
        rw [F.cG, List.getElem?_eq_getElem (by omega)] at this
        obtain ⟨cs', hcs, ht⟩ := Option.bind_eq_some_iff.1 this
        exact ⟨_, hcs, open_tag' F ht (hfs.2 _ (List.mem_map.2 ⟨_, List.getElem_mem _, rfl⟩))⟩)
      obtain ⟨l, hs1, hs2⟩ := all_choice (n := css.length) (R := fun i t => ∀ hi : i < css.length, TagC AnyB w t css[i] ∧ t.2.length ≤ 140737488351232) (fun i hi => by obtain ⟨t, ht⟩ := hc3 i hi; exact ⟨t, fun _ => ht⟩)
      refine ⟨_, l, hc, ⟨css, hc1, hs1, fun i g1 g2 => (hs2 i g1 g2).1⟩, by omega, fun x hx => ?_⟩
      obtain ⟨i, hi, rfl⟩ := List.getElem_of_mem hx
      exact (hs2 i hi (by omega)).2
  obtain ⟨vL, l, hLc, hLv, hLl, hLe⟩ := hLx
  obtain ⟨vU, u, hUc, hUv, hUl, hUe⟩ := hUx
  rw [F.cT] at h1
  obtain ⟨c0, c1, c2, c3, c4, rfl⟩ : ∃ a b c d e, cs = [a, b, c, d, e] := by
    match cs, h1 with
    | [a, b, c, d, e], _ => exact ⟨_, _, _, _, _, rfl⟩
  · simp only [List.drop_zero, List.take_succ_cons, List.take_zero, List.drop_succ_cons, List.cons.injEq, and_true] at hm hv hbb hLc hUc
    subst hm; subst hv; subst hbb; subst hLc; subst hUc
    exact ⟨.mk m s bb l u, TreeC.intro (wf_wrap_eq hw) hb hLv hUv, .mk hsl hLl hUl hLe hUe⟩
end
theorem Small.mono {B B' : Nat} (hb : B ≤ B') {t : Tree} (h : Small B t) : Small B' t := by
  induction h with
  | mk hs hl hu he hd ih => exact .mk (by omega) (by omega) (by omega) ih fun x hx => Nat.le_trans (hd x hx) hb
end Ms
