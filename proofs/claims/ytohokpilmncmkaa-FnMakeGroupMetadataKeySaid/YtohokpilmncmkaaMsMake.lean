/- 'make' of a slice; 'copy' of octets into an own slice. -/
import Derived.Test.YtohokpilmncmkaaMsSmall
import Derived.Laws.MakeOwn
import Derived.Laws.OwnMore
import Derived.Laws.IdiomStrings
set_option linter.unusedSimpArgs false
set_option linter.unusedVariables false
namespace Ms
open Go Go.RowKit
section
variable {P : Program}

theorem wp_make {T E : TypeId} {size bytes : Nat} {z : Value} (hu : P.underlying T = some (.slice E)) (hi : (P.info? E).map (fun i => (i.zero, i.size, i.bytes)) = some (some z, size, bytes))
    {w : World} {ρ : Regs} {d : Option Nat} {x y : Operand} {type : TypeId} {pos : String} {after : Array Edge} {guard : Option (Nat × Bool)} {K : Regs → World → Prop} {kl kc : IntKind} {l c : Nat}
    (hl : ev ρ x = .int kl l) (hc : ev ρ y = .int kc c) (hlc : l ≤ c) (hb : bytes * c ≤ 281474976710656) (hn : c ≤ 4611686018427387904)
    (hk : K (put ρ d (.slice (some ⟨w.heap.size, 0, none⟩) l c)) (w.alloc (.cells (madeCells z.cells (c * size)) E))) :
    rawK P { dst := d, op := .makeSlice T x y, type := type, pos := pos, after := after, guard := guard } ρ w K := by
  refine ⟨?_⟩
  obtain ⟨i, h1, h2, h3, h4⟩ : ∃ i, P.info? E = some i ∧ i.zero = some z ∧ i.size = size ∧ i.bytes = bytes := by
    obtain ⟨i, hi, hzz⟩ := Option.map_eq_some_iff.1 hi
    simp only [Prod.mk.injEq] at hzz
    exact ⟨i, hi, hzz.1, hzz.2.1, hzz.2.2⟩
  subst h3
  subst h4
  have hb' : (i.bytes : Int) * (c : Int) ≤ 281474976710656 := by
    have h : ((i.bytes * c : Nat) : Int) ≤ 281474976710656 := by omega
    rwa [Int.natCast_mul] at h
  have hr := run_make (P := P) w T E i z hu h1 h2 kl kc (l : Int) (c : Int) (by omega) (by omega) hb' (by omega)
  simp only [Int.toNat_natCast] at hr
  have : (execOp (ev ρ) { dst := d, op := .makeSlice T x y, type := type, pos := pos, after := after, guard := guard }).run P w = .ok (.value (.slice (some ⟨w.heap.size, 0, none⟩) l c)) (w.alloc (.cells (madeCells z.cells (c * i.size)) E)) := by
    simp only [execOp, hl, hc, Sem.run_bind, Sem.run_pure, hr, Result.andThen_ok]
  rw [this]
  exact hk
theorem made_one (z : Value) (n : Nat) : madeCells #[z] n = (List.replicate n z).toArray := by
  rw [← toList_madeCells_one]

theorem src_take {ok : Blocks} {w : World} {base : Option Addr} {m cap : Nat} {s : List UInt8} (h : BytesV ok w (.slice base m cap) s) (k : Nat) (hk : k ≤ s.length) : Src w 1 (.slice base k cap) k ((s.take k).map byteV) := by
  obtain ⟨_, h1, h2⟩ := h.src
  refine ⟨by simp; omega, flat_bytes _, .inl ⟨base, k, cap, rfl, rfl, ?_⟩⟩
  rcases h2 with ⟨b, n, c, h3, h4, h5⟩ | ⟨b, h3, _⟩
  · cases h3
    rcases h5 with h5 | ⟨a, ha, hs⟩
    · left
      have : s = [] := by simpa using h5
      rw [this]; simp
    · refine .inr ⟨a, ha, ?_⟩
      rw [List.map_take]; exact hs.take k
  · cases h3

theorem wp_copy {T X E : TypeId} (hu : P.underlying T = some (.slice E)) (hi : (P.info? E).map (·.size) = some 1) {ok : Blocks}
    {w : World} {ρ : Regs} {d : Option Nat} {x y : Operand} {type : TypeId} {pos : String} {after : Array Edge} {guard : Option (Nat × Bool)} {K : Regs → World → Prop} {b n m cap c : Nat} {base : Option Addr} {s : List UInt8} {xb : Blk}
    (hd : ev ρ x = .slice (some ⟨b, 0, none⟩) n cap) (hs : ev ρ y = .slice base m c) (hB : BytesV ok w (.slice base m c) s) (hb : blk w b = some xb) (hsz : n ≤ xb.1.size) (hf : thaw xb.2.2 0 n = true)
    (hk : ∀ v, K (put ρ d v) (wr w b 0 ((s.take n).map byteV))) :
    rawK P { dst := d, op := .call { callee := .builtin .copy, args := #[x, y], argTypes := #[T, X] }, type := type, pos := pos, after := after, guard := guard } ρ w K := by
  refine ⟨?_⟩
  obtain ⟨i, h1, h2⟩ := Option.map_eq_some_iff.1 hi
  have hm : m = s.length := by obtain ⟨b', c', e, _⟩ := hB; cases e; simp
  have hsrc := src_take hB (Nat.min m n) (by rw [hm]; exact Nat.min_le_left _ _)
  have hfc : (Builtin.firstCells 1 (Nat.min m n) (.slice base m c)).run P w = .ok ((s.take (Nat.min m n)).map byteV).toArray w := by
    rw [show Builtin.firstCells 1 (Nat.min m n) (.slice base m c) = Builtin.firstCells 1 (Nat.min m n) (.slice base (Nat.min m n) c) from by cases base <;> rfl]
    exact run_firstCells hsrc
  have hlen : ((s.take (Nat.min m n)).map byteV).length ≤ n := by simp; omega
  have hst := run_storeCells (P := P) ((s.take (Nat.min m n)).map byteV) w 0 0 xb hb (by omega) (by simp only [thaw, Bool.or_eq_true, Nat.ble_eq] at hf; omega) (flat_bytes _)
  have htk : s.take (Nat.min m n) = s.take n := by
    rw [hm]
    rcases Nat.le_total s.length n with h | h
    · rw [show Nat.min s.length n = s.length from Nat.min_eq_left h, List.take_length, List.take_of_length_le h]
    · rw [show Nat.min s.length n = n from Nat.min_eq_right h]
  rw [htk] at hfc hst
  have : (execOp (ev ρ) { dst := d, op := .call { callee := .builtin .copy, args := #[x, y], argTypes := #[T, X] }, type := type, pos := pos, after := after, guard := guard }).run P w = .ok (.value (goInt (Nat.min m n))) (wr w b 0 ((s.take n).map byteV)) := by
    simp only [execOp, resolve, Sem.run_bind, Sem.run_pure, Result.andThen_ok, invoke, builtin, List.map_toArray, List.map_cons, List.map_nil, hd, hs]
    simp [Builtin.copy_, run_underlying hu, Builtin.lenOf, Go.sizeOf, typeInfo, h1, h2, hfc, hst, -List.map_take]
  rw [this]
  exact hk _

/-- A text. -/
def strV (s : List UInt8) : Value := .string ⟨s.toArray⟩
theorem wp_string {S T E : TypeId} (hs : P.underlying S = some (.slice E)) (he : P.underlying E = some (.int .u8)) (hd : P.underlying T = some .string) {ok : Blocks} {s : List UInt8}
    {w : World} {ρ : Regs} {d : Option Nat} {x : Operand} {type : TypeId} {pos : String} {after : Array Edge} {guard : Option (Nat × Bool)} {K : Regs → World → Prop}
    (hB : BytesV ok w (ev ρ x) s) (hk : K (put ρ d (strV s)) w) :
    rawK P { dst := d, op := .convert S T x, type := type, pos := pos, after := after, guard := guard } ρ w K := by
  refine ⟨?_⟩
  have : (execOp (ev ρ) { dst := d, op := .convert S T x, type := type, pos := pos, after := after, guard := guard }).run P w = .ok (.value (strV s)) w := by
    obtain ⟨base, cap, h1, h2, h3, h4⟩ := hB
    simp only [List.length_map] at h1 h2
    have hr : (convert S T (.slice base s.length cap)).run P w = .ok (strV s) w := by
      rcases h4 with h4 | ⟨a, ha, hok, hb, x, hx, h5⟩
      · have hs0 : s = [] := by simpa using h4
        subst hs0
        cases base with
        | none => simp [convert, run_underlying hs, run_underlying he, run_underlying hd, Conv.bytesToString, Sem.run_bind, strV]; rfl
        | some a => exact run_convert_bytes_back w S T E a cap [] hs he hd (fun j hj => by simp at hj)
      · subst ha
        refine run_convert_bytes_back w S T E a cap s hs he hd fun j hj => ?_
        obtain ⟨ab, ao, asp⟩ := a
        simp only at hok hx
        subst hok
        have := h5 j (by rw [flatten_bytes]; simpa using hj)
        rw [flatten_bytes] at this
        rw [show (⟨ab, ao, none⟩ : Addr).add j = ⟨ab, ao + j, none⟩ from add_of_addOff rfl, cell?_blk, hx, Option.bind_some, this]
        simp [hj, byteV]
    simp only [execOp, h1, Sem.run_bind, hr, Result.andThen_ok, Sem.run_pure]
  rw [this]
  exact hk
theorem strV_src (w : World) (s : List UInt8) : Src w 1 (strV s) s.length (s.map byteV) := by
  refine ⟨by simp, flat_bytes _, .inr ⟨_, rfl, ?_, rfl, ?_⟩⟩
  · simp [ByteArray.size]
  · simp [bytesOf]
theorem flat_strV (s : List UInt8) : flat (strV s) = true := rfl
theorem lenV_strV {T : TypeId} (s : List UInt8) : lenV P T (strV s) = if isStrT P T = true then some (.int .i64 s.length) else none := by
  simp [strV, lenV, ByteArray.size]
theorem cells_strV (s : List UInt8) : vcells (strV s) = #[strV s] := rfl
end
end Ms
