/- What a function that appends octets to an own slice gives. -/
import Derived.Test.YtohokpilmncmkaaMsPart
set_option linter.unusedSimpArgs false
set_option linter.unusedVariables false
namespace Ms
open Go

structure AppR (E : TypeId) (B : Nat) (w : World) (v : Value) (s add : List UInt8) (r : Value) (w' : World) : Prop where
  own : OwnBy E B w' r (s ++ add)
  upd : Upd (ownB v) w w'
  frame : ∀ b, ownB r b → ownB v b ∨ w.heap.size ≤ b
theorem AppR.trans {E : TypeId} {B : Nat} {w w1 w2 : World} {v r1 r2 : Value} {s a b : List UInt8} (h1 : AppR E B w v s a r1 w1) (h2 : AppR E B w1 r1 (s ++ a) b r2 w2) : AppR E B w v s (a ++ b) r2 w2 := by
  refine ⟨by rw [← List.append_assoc]; exact h2.own, ?_, ?_⟩
  · refine ⟨h2.upd.os.trans h1.upd.os, h2.upd.tape.trans h1.upd.tape, h2.upd.output.trans h1.upd.output, Nat.le_trans h1.upd.size h2.upd.size, fun b hb hn => ?_⟩
    rw [h2.upd.keep b (Nat.lt_of_lt_of_le hb h1.upd.size) (fun h => (h1.frame b h).elim hn (fun h => by omega)), h1.upd.keep b hb hn]
  · intro b hb
    rcases h2.frame b hb with h | h
    · exact h1.frame b h
    · exact .inr (Nat.le_trans h1.upd.size h)
theorem AppR.refl {E : TypeId} {B : Nat} {w : World} {v : Value} {s : List UInt8} (h : OwnBy E B w v s) : AppR E B w v s [] v w := ⟨by rw [List.append_nil]; exact h, Upd.refl _ _, fun _ h => .inl h⟩
/-- Ahead of it something new was made. -/
theorem AppR.after {E : TypeId} {B : Nat} {w w1 w2 : World} {v r : Value} {s a : List UInt8} (h0 : Ext w w1) (h : AppR E B w1 v s a r w2) : AppR E B w v s a r w2 :=
  ⟨h.own, (h0.mono fun _ h => h.elim).trans h.upd, fun b hb => (h.frame b hb).imp id fun h => Nat.le_trans h0.size h⟩
theorem AppR.then {E : TypeId} {B : Nat} {w w1 w2 : World} {v r : Value} {s a : List UInt8} (h : AppR E B w v s a r w1) (h0 : Ext w1 w2) : AppR E B w v s a r w2 :=
  ⟨h.own.upd h0 (fun _ _ h => h), h.upd.trans (h0.mono fun _ h => h.elim), h.frame⟩
theorem AppR.of {E : TypeId} {B : Nat} {w w' : World} {v r : Value} {s t : List UInt8} {n : Nat} (ho : Own B w' E 1 r n (s.map byteV ++ t.map byteV)) (hn : n = s.length + t.length) (hu : Upd (ownB v) w w') (hf : ∀ b, ownB r b → ownB v b ∨ w.heap.size ≤ b) : AppR E B w v s t r w' :=
  ⟨OwnBy.app ho hn, hu, hf⟩

theorem b8_eq {x y : Int} (h : x % 256 = y % 256) : b8 x = b8 y := by
  have h1 := b8_toNat x
  have h2 := b8_toNat y
  exact UInt8.toNat_inj.1 (by omega)
theorem fixedS_two (n : Int) : fixedS n 2 = [b8 (n.fdiv 256), b8 n] := by
  simp only [fixedS]
  rw [show (2 : Int) ^ (8 * 1) = 256 by decide, show (2 : Int) ^ (8 * 0) = 1 by decide, Int.fdiv_one]
theorem fixedS_one (n : Int) : fixedS n 1 = [b8 n] := by
  simp only [fixedS]
  rw [show (2 : Int) ^ (8 * 0) = 1 by decide, Int.fdiv_one]
theorem fixedS_four (n : Int) : fixedS n 4 = [b8 (n.fdiv 16777216), b8 (n.fdiv 65536), b8 (n.fdiv 256), b8 n] := by
  simp only [fixedS]
  rw [show (2 : Int) ^ (8 * 3) = 16777216 by decide, show (2 : Int) ^ (8 * 2) = 65536 by decide, show (2 : Int) ^ (8 * 1) = 256 by decide, show (2 : Int) ^ (8 * 0) = 1 by decide, Int.fdiv_one]
theorem b8_fdiv {x y : Int} (c : Nat) (h : x % (256 * c) = y % (256 * c)) (hc : 0 < c) : b8 (x.fdiv c) = b8 (y.fdiv c) := by
  refine b8_eq ?_
  rw [Int.fdiv_eq_ediv_of_nonneg _ (by omega), Int.fdiv_eq_ediv_of_nonneg _ (by omega)]
  have e : ∀ z : Int, z / c % 256 = z % (256 * c) / c := by
    intro z
    have hcp : (0 : Int) < c := by omega
    have h1 := Int.emod_add_mul_ediv z (256 * c)
    have h2 := Int.emod_nonneg z (show (256 * (c : Int)) ≠ 0 by omega)
    have h3 := Int.emod_lt_of_pos z (show 0 < (256 * (c : Int)) by omega)
    generalize z % (256 * c) = r at *
    generalize z / (256 * c) = q at *
    have h4 : z / c = r / c + 256 * q := by
      rw [← h1, show (256 * (c : Int)) * q = c * (256 * q) by rw [Int.mul_comm 256 (c : Int), Int.mul_assoc], Int.add_mul_ediv_left _ _ (by omega)]
    have h5 : 0 ≤ r / c := Int.ediv_nonneg h2 (by omega)
    have h6 : r / c < 256 := Int.ediv_lt_of_lt_mul hcp (by omega)
    rw [h4]; omega
  rw [e, e, h]
end Ms
