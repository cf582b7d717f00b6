/- A part of the proof: see the last text. -/
import Derived.Test.YtcicbihkpkbbnaaGreatDoorC02
set_option linter.unusedSimpArgs false
set_option linter.unusedVariables false
namespace Ms
open Go
/-- How many values a reading holds, as the given texts count. -/
structure Bulk {H : Type} (bk : DataW H → Nat) (ba : List (DataW H) → Nat) : Prop where
  pos : ∀ d, 1 ≤ bk d
  slice : ∀ e s, bk (.slice e s) = ba e + ba s + 1
  agg : ∀ p, bk (.agg p) = ba p + 1
  nil : ba [] = 0
  cons : ∀ d r, ba (d :: r) = bk d + ba r
theorem Bulk.sum {H : Type} {bk : DataW H → Nat} {ba : List (DataW H) → Nat} (h : Bulk bk ba) : ∀ l, ba l = (l.map bk).sum
  | [] => h.nil
  | d :: r => by rw [h.cons, List.map_cons, List.sum_cons, h.sum r]
theorem Bulk.len {H : Type} {bk : DataW H → Nat} {ba : List (DataW H) → Nat} (h : Bulk bk ba) : ∀ l, l.length ≤ ba l
  | [] => by simp
  | d :: r => by have := h.len r; have := h.pos d; rw [h.cons, List.length_cons]; omega
theorem Bulk.mem {H : Type} {bk : DataW H → Nat} {ba : List (DataW H) → Nat} (h : Bulk bk ba) {d : DataW H} : ∀ {l}, d ∈ l → bk d ≤ ba l
  | [], hm => by cases hm
  | x :: r, hm => by
    rw [h.cons]
    rcases List.mem_cons.1 hm with rfl | hm
    · omega
    · have := h.mem hm; omega
theorem sum_le : ∀ {xs ys : List Nat}, xs.length = ys.length → (∀ i (h1 : i < xs.length) (h2 : i < ys.length), xs[i] ≤ ys[i]) → xs.sum ≤ ys.sum
  | [], [], _, _ => Nat.le_refl _
  | x :: xs, y :: ys, h, hp => by
    have h0 := hp 0 (by simp) (by simp)
    have := sum_le (xs := xs) (ys := ys) (by simpa using h) fun i h1 h2 => by
      have := hp (i + 1) (by simpa using h1) (by simpa using h2)
      simpa using this
    simp only [List.getElem_cons_zero] at h0
    simp only [List.sum_cons]; omega
  | [], _ :: _, h, _ => by simp at h
  | _ :: _, [], h, _ => by simp at h
section
variable {H : Type} {enc : TypeId × Value → H} {P : Program} {w : World} {base : Nat} {spare : Nat → Bool} {held : Bool}
variable {bk : DataW H → Nat} {ba : List (DataW H) → Nat} (hbk : Bulk bk ba)
include hbk
theorem open_bytesB {y S : TypeId} (hy : P.underlying y = some (.int .u8)) (cy : P.cellsOf y = 1) (b_y : P.bytesOf y = 1) (hS : P.underlying S = some (.slice y)) {fuel : Nat} {cs : List Value} {x : DataW H × List MemPlace} (h : DataW.trod enc P w base spare held fuel S cs = some x) (hf : Fits P S x.1) :
    ∃ v s, cs = [v] ∧ BytesV AnyB w v s ∧ s.length ≤ 140737488351232 ∧ s.length + 1 ≤ bk x.1 := by
  rcases DataW.trod_slice hS h with ⟨rfl, rfl⟩ | ⟨a, len, cap, elems, rest, n, rfl, rfl, rfl, h1, h2, h3, h4, h5, h6, h7⟩
  · exact ⟨_, [], rfl, ⟨none, 0, rfl, Nat.le_refl _, by simp, .inl rfl⟩, by simp, by have := hbk.pos DataW.nil; simpa using this⟩
  · have hfs := fits_slice hS hf
    simp only [List.length_map, b_y, reachBytes] at hfs
    obtain ⟨css, hc1, hc2, hc3⟩ := sl_elems (w := w) (base := base) (size := 1) (by omega) (a := a) (len := len) (cap := cap) h2 (R := fun i cs => ∃ b, ByteC b cs) (fun i hi => by
      have := h5 i hi
      rw [cy, List.getElem?_eq_getElem (by omega)] at this
      obtain ⟨cs, hcs, ht⟩ := Option.bind_eq_some_iff.1 this
      obtain ⟨n', rfl, hw⟩ := trod_int' hy ht
      refine ⟨_, hcs, UInt8.ofNat n'.toNat, ?_⟩
      simp only [Lit.wf, Bool.and_eq_true, decide_eq_true_eq, IntKind.min, IntKind.max, IntKind.signed, IntKind.bits] at hw
      unfold ByteC byteV
      congr 2
      simp only [UInt8.toNat_ofNat']
      simp at hw
      omega)
    obtain ⟨s, hs1, hs2⟩ := all_choice (n := css.length) (R := fun i b => ∀ hi : i < css.length, ByteC b css[i]) (fun i hi => by obtain ⟨b, hb⟩ := hc3 i hi; exact ⟨b, fun _ => hb⟩)
    refine ⟨_, s, rfl, ?_, by omega, by
      rw [hbk.slice]
      have := hbk.len (elems.map (·.1))
      rw [List.length_map] at this
      omega⟩
    have : css = s.map fun b => [byteV b] := by
      apply List.ext_getElem
      · simp [hs1]
      · intro i g1 g2
        simp only [List.getElem_map]
        exact hs2 i (by omega) g1
    rw [this] at hc1
    exact hc1

variable {y B N K S G U T L : TypeId}
theorem open_tagB (F : TreeTy P y B N K S G U T L) {fuel : Nat} {cs : List Value} {x : DataW H × List MemPlace} (h : DataW.trod enc P w base spare held fuel G cs = some x) (hf : Fits P G x.1) :
    ∃ u, TagC AnyB w u cs ∧ u.2.length ≤ 140737488351232 ∧ u.2.length + 1 ≤ bk x.1 := by
  obtain ⟨fs, hfs, hl⟩ := F.uG
  obtain ⟨xs, n, rfl, rfl, h1, h2, h3⟩ := DataW.trod_struct hfs h
  have hff := fits_struct hfs hf
  obtain ⟨f0, g0, e0, o0⟩ := struct_get hl 0 K 0 rfl
  obtain ⟨f1, g1, e1, o1⟩ := struct_get hl 1 S 1 rfl
  have hsz : xs.length = 2 := by rw [h2]; simpa using congrArg List.length hl
  have k0 := h3 0 f0 g0
  have k1 := h3 1 f1 g1
  rw [e0, o0, F.cK, List.getElem?_eq_getElem (by omega)] at k0
  rw [e1, o1, F.cS, List.getElem?_eq_getElem (by omega)] at k1
  obtain ⟨m, hm, hw⟩ := trod_int' F.uK k0
  obtain ⟨v, s, hv, hb, hsl, hsb⟩ := open_bytesB hbk F.uy F.cy F.b_y F.uS k1 (by
    have := hff 1 f1 (xs[1].1) g1 (by simp [List.getElem?_eq_getElem (show 1 < xs.length by omega)])
    rw [e1] at this; exact this)
  rw [F.cG] at h1
  obtain ⟨c0, c1, rfl⟩ : ∃ a b, cs = [a, b] := by
    match cs, h1 with
    | [a, b], _ => exact ⟨_, _, rfl⟩
  · simp only [List.drop_zero, List.take_succ_cons, List.take_zero, List.drop_succ_cons, List.cons.injEq, and_true] at hm hv
    subst hm; subst hv
    simp only [Lit.wf, Bool.and_eq_true, decide_eq_true_eq, IntKind.min, IntKind.max, IntKind.signed, IntKind.bits] at hw
    simp at hw
    refine ⟨(m.toNat, s), ⟨c1, ?_, hb, by simp only; omega⟩, hsl, ?_⟩
    · simp only [List.cons.injEq, Value.int.injEq, true_and, and_true]
      omega
    · rw [hbk.agg]
      have h8 := hbk.mem (l := xs.map (·.1)) (List.mem_map.2 ⟨_, List.getElem_mem (show 1 < xs.length by omega), rfl⟩)
      simp only
      omega

theorem open_treeB (F : TreeTy P y B N K S G U T L) : ∀ (fuel : Nat) {cs : List Value} {x : DataW H × List MemPlace}, DataW.trod enc P w base spare held fuel T cs = some x → Fits P T x.1 →
    ∃ t, TreeC AnyB w t cs ∧ Small 140737488351232 t ∧ Sized (bk x.1) t := by
  intro fuel
  induction fuel using Nat.strongRecOn with
  | _ fuel ih =>
  intro cs x h hf
  obtain ⟨fs, hfs, hl⟩ := F.uT
  obtain ⟨xs, n, rfl, rfl, h1, h2, h3⟩ := DataW.trod_struct hfs h
  have hff := fits_struct hfs hf
  obtain ⟨f0, g0, e0, o0⟩ := struct_get hl 0 N 0 rfl
  obtain ⟨f1, g1, e1, o1⟩ := struct_get hl 1 S 1 rfl
  obtain ⟨f2, g2, e2, o2⟩ := struct_get hl 2 B 2 rfl
  obtain ⟨f3, g3, e3, o3⟩ := struct_get hl 3 L 3 rfl
  obtain ⟨f4, g4, e4, o4⟩ := struct_get hl 4 U 4 rfl
  have hsz : xs.length = 5 := by rw [h2]; simpa using congrArg List.length hl
  have k0 := h3 0 f0 g0
  have k1 := h3 1 f1 g1
  have k2 := h3 2 f2 g2
  have k3 := h3 3 f3 g3
  have k4 := h3 4 f4 g4
  rw [e0, o0, F.cN, List.getElem?_eq_getElem (by omega)] at k0
  rw [e1, o1, F.cS, List.getElem?_eq_getElem (by omega)] at k1
  rw [e2, o2, F.cB, List.getElem?_eq_getElem (by omega)] at k2
  rw [e3, o3, F.cL, List.getElem?_eq_getElem (by omega)] at k3
  rw [e4, o4, F.cU, List.getElem?_eq_getElem (by omega)] at k4
  have fit : ∀ i (hi : i < xs.length) f t, fs[i]? = some f → f.type = t → Fits P t xs[i].1 := fun i hi f t hg he => by
    have := hff i f (xs[i].1) hg (by simp [List.getElem?_eq_getElem hi])
    rw [he] at this; exact this
  obtain ⟨m, hm, hw⟩ := trod_int' F.uN k0
  obtain ⟨v, s, hv, hb, hsl, hsb⟩ := open_bytesB hbk F.uy F.cy F.b_y F.uS k1 (fit 1 (by omega) f1 S g1 e1)
  obtain ⟨bb, hbb⟩ := trod_bool' F.uB k2
  have fL := fit 3 (by omega) f3 L g3 e3
  have fU := fit 4 (by omega) f4 U g4 e4
  have hLx : ∃ vL l, ((cs.drop 3).take 1) = [vL] ∧ TreesV AnyB w vL l ∧ l.length ≤ 140737488351232 ∧ (∀ i (hi : i < l.length), Small 140737488351232 l[i]) ∧ ∃ ns : List Nat, ns.length = l.length ∧ (∀ i (h1 : i < l.length) (h2 : i < ns.length), Sized ns[i] l[i]) ∧ ns.sum + 1 ≤ bk xs[3].1 := by
    rcases DataW.trod_slice F.uL k3 with ⟨hc, hx⟩ | ⟨a, len, cap, elems, rest, n', hn', hc, hx, q1, q2, q3, q4, q5, q6, q7⟩
    · exact ⟨_, [], hc, ⟨[], ⟨none, 0, rfl, Nat.le_refl _, by simp, .inl rfl⟩, rfl, fun i h => by simp at h⟩, by simp, fun i h => by simp at h, [], rfl, fun i h => by simp at h, by simpa using hbk.pos _⟩
    · rw [hx] at fL
      have hfs := fits_slice F.uL fL
      simp only [List.length_map, F.bT, reachBytes] at hfs
      obtain ⟨css, hc1, hc2, hc3⟩ := sl_elems (w := w) (base := base) (size := 5) (by omega) (a := a) (len := len) (cap := cap) q2 (R := fun i cs => ∃ t, TreeC AnyB w t cs ∧ Small 140737488351232 t ∧ ∀ hi : i < elems.length, Sized (bk (elems[i]).1) t) (fun i hi => by
        have := q5 i hi
        rw [F.cT, List.getElem?_eq_getElem (by omega)] at this
        obtain ⟨cs', hcs, ht⟩ := Option.bind_eq_some_iff.1 this
        obtain ⟨t, g1, g2, g3⟩ := ih n' (by omega) ht (hfs.2 _ (List.mem_map.2 ⟨_, List.getElem_mem _, rfl⟩))
        exact ⟨_, hcs, t, g1, g2, fun _ => g3⟩)
      obtain ⟨l, hs1, hs2⟩ := all_choice (n := css.length) (R := fun i t => ∀ hi : i < css.length, TreeC AnyB w t css[i] ∧ Small 140737488351232 t ∧ ∀ hi : i < elems.length, Sized (bk (elems[i]).1) t) (fun i hi => by obtain ⟨t, ht⟩ := hc3 i hi; exact ⟨t, fun _ => ht⟩)
      refine ⟨_, l, hc, ⟨css, hc1, hs1, fun i g1 g2 => (hs2 i g1 g2).1⟩, by omega, fun i hi => (hs2 i hi (by omega)).2.1, elems.map fun e => bk e.1, by simp only [List.length_map]; omega, fun i h1 h2 => ?_, ?_⟩
      · simp only [List.getElem_map]
        exact (hs2 i h1 (by omega)).2.2 (by simpa using h2)
      · rw [hx, hbk.slice, hbk.sum, List.map_map]
        exact Nat.succ_le_succ (Nat.le_add_right _ _)
  have hUx : ∃ vU u, ((cs.drop 4).take 1) = [vU] ∧ TagsV AnyB w vU u ∧ u.length ≤ 140737488351232 ∧ (∀ x ∈ u, x.2.length ≤ 140737488351232) ∧ (u.map fun x => x.2.length + 1).sum + 1 ≤ bk xs[4].1 := by
    rcases DataW.trod_slice F.uU k4 with ⟨hc, hx⟩ | ⟨a, len, cap, elems, rest, n', hn', hc, hx, q1, q2, q3, q4, q5, q6, q7⟩
    · exact ⟨_, [], hc, ⟨[], ⟨none, 0, rfl, Nat.le_refl _, by simp, .inl rfl⟩, rfl, fun i h => by simp at h⟩, by simp, fun x h => by simp at h, by simpa using hbk.pos _⟩
    · rw [hx] at fU
      have hfs := fits_slice F.uU fU
      simp only [List.length_map, F.bG, reachBytes] at hfs
      obtain ⟨css, hc1, hc2, hc3⟩ := sl_elems (w := w) (base := base) (size := 2) (by omega) (a := a) (len := len) (cap := cap) q2 (R := fun i cs => ∃ t, TagC AnyB w t cs ∧ t.2.length ≤ 140737488351232 ∧ ∀ hi : i < elems.length, t.2.length + 1 ≤ bk (elems[i]).1) (fun i hi => by
        have := q5 i hi
        rw [F.cG, List.getElem?_eq_getElem (by omega)] at this
        obtain ⟨cs', hcs, ht⟩ := Option.bind_eq_some_iff.1 this
        obtain ⟨t, g1, g2, g3⟩ := open_tagB hbk F ht (hfs.2 _ (List.mem_map.2 ⟨_, List.getElem_mem _, rfl⟩))
        exact ⟨_, hcs, t, g1, g2, fun _ => g3⟩)
      obtain ⟨l, hs1, hs2⟩ := all_choice (n := css.length) (R := fun i t => ∀ hi : i < css.length, TagC AnyB w t css[i] ∧ t.2.length ≤ 140737488351232 ∧ ∀ hi : i < elems.length, t.2.length + 1 ≤ bk (elems[i]).1) (fun i hi => by obtain ⟨t, ht⟩ := hc3 i hi; exact ⟨t, fun _ => ht⟩)
      refine ⟨_, l, hc, ⟨css, hc1, hs1, fun i g1 g2 => (hs2 i g1 g2).1⟩, by omega, fun x hx => ?_, ?_⟩
      · obtain ⟨i, hi, rfl⟩ := List.getElem_of_mem hx
        exact (hs2 i hi (by omega)).2.1
      · have hsum := sum_le (xs := l.map fun x => x.2.length + 1) (ys := elems.map fun e => bk e.1) (by simp only [List.length_map]; omega) fun i h1 h2 => by
          simp only [List.getElem_map]
          exact (hs2 i (by simpa using h1) (by simp at h1; omega)).2.2 (by simpa using h2)
        rw [hx, hbk.slice, hbk.sum, List.map_map]
        exact Nat.succ_le_succ (Nat.le_trans hsum (Nat.le_add_right _ _))
  obtain ⟨vL, l, hLc, hLv, hLl, hLe, ns, hns1, hns2, hns3⟩ := hLx
  obtain ⟨vU, u, hUc, hUv, hUl, hUe, hUs⟩ := hUx
  rw [F.cT] at h1
  obtain ⟨c0, c1, c2, c3, c4, rfl⟩ : ∃ a b c d e, cs = [a, b, c, d, e] := by
    match cs, h1 with
    | [a, b, c, d, e], _ => exact ⟨_, _, _, _, _, rfl⟩
  · obtain rfl : c0 = .int .i64 m := by simpa using hm
    obtain rfl : c1 = v := by simpa using hv
    obtain rfl : c2 = .bool bb := by simpa using hbb
    obtain rfl : c3 = vL := by simpa using hLc
    obtain rfl : c4 = vU := by simpa using hUc
    refine ⟨.mk m s bb l u, TreeC.intro (wf_wrap_eq hw) hb hLv hUv, .mk hsl hLl hUl hLe hUe, .mk ns hns1 hns2 (fun x hx => ?_) ?_⟩
    · obtain ⟨css, _, h8, h9⟩ := hUv
      obtain ⟨i, hi, rfl⟩ := List.getElem_of_mem hx
      obtain ⟨_, _, _, h10⟩ := h9 i hi (by omega)
      exact h10
    · rw [hbk.agg]
      obtain ⟨x0, x1, x2, x3, x4, rfl⟩ : ∃ a b c d e, xs = [a, b, c, d, e] := by
        match xs, hsz with
        | [a, b, c, d, e], _ => exact ⟨_, _, _, _, _, rfl⟩
      simp only [List.map_cons, List.map_nil, hbk.cons, hbk.nil]
      simp only [List.getElem_cons_zero, List.getElem_cons_succ] at hsb hns3 hUs
      have := hbk.pos x0.1
      omega
end
end Ms

namespace Ms
open Go
variable {P : Program}
theorem wp_copyN {T X E : TypeId} (F : AppT P T X E 1 1) {w : World} {ρ : Regs} {d : Option Nat} {x y : Operand} {type : TypeId} {pos : String} {after : Array Edge} {guard : Option (Nat × Bool)} {K : Regs → World → Prop} {v : Value} {s : List UInt8} {ok : Blocks}
    (hx : ev ρ x = .slice none 0 0) (hy : ev ρ y = v) (hv : BytesV ok w v s) (hl : s.length ≤ 2 ^ 45)
    (hk : ∀ v' w', OwnBy E w.heap.size w' v' s → Ext w w' → (∀ b, ownB v' b → w.heap.size ≤ b) → K (put ρ d v') w') :
    rawK P { dst := d, op := .call { callee := .builtin .append, args := #[x, y], argTypes := #[T, X] }, type := type, pos := pos, after := after, guard := guard } ρ w K := by
  refine wp_append F (B := w.heap.size) (n := 0) (cs := []) (m := s.length) (news := s.map byteV) hx hy (Own.nil _ _ _ _) rfl hv.src (Nat.le_refl _) (by omega) ?_
  intro v' w' h1 h2 h3
  refine hk v' w' ?_ (h2.mono ?_) ?_
  · rw [List.nil_append, Nat.zero_add] at h1; exact h1
  · rintro b ⟨a, n, c, h, _⟩; cases h
  · intro b hb
    rcases h3 b hb with ⟨a, n, c, h, _⟩ | h
    · cases h
    · exact h
end Ms

