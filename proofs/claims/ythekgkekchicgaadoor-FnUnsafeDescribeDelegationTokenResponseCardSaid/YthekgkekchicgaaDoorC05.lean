/- A part of the proof: see the last text. -/
import Derived.Test.YthekgkekchicgaaDoorC04
set_option linter.unusedSimpArgs false
set_option linter.unusedVariables false
namespace Ms
open Go.World renaming size_alloc → qI
open Ms renaming size_wr → qJ,size_drew → qK,not_noB → qL
open W renaming seqR → qA,seq → qB,regR → qC,condK → qD,block → qE,skip → qF,ret → qG,exit → qH
open Nat renaming reduceEqDiff → n0,reduceAdd → n1,reduceMul → n2,reduceSub → n3,reduceLT → n4,reduceLeDiff → n5
open Int renaming reduceEq → i0,reduceLT → i1,reduceLE → i2,reduceNeg → i3,reduceAdd → i4,reduceSub → i5,reduceMul → i6,reduceToNat → i7
set_option maxRecDepth 8000
open Go Go.Proofs
attribute [local congr] W_congr WPsq_congr WPp_congr optK_congr addrK_congr intK_congr boolK_congr sliceK_congr tupleK_congr funcK_congr Fn_congr rawK_congr takeK_congr stepK_congr convK_congr aggK_congr

set_option maxHeartbeats 1000000 in
theorem Uv_out0 {ok : Blocks} (v : Value) (w : World) (h : BytesV ok w v ([]))  : Fn Tryd.prog 289 #[v] w fun r w' => w' = w ∧ r = .tuple #[.int .u32 0,.int .i64 (0)] := by
  obtain ⟨av,cv,rfl,hcv⟩ := h.shape
  refine fn_of_W Tryd.func289 rfl Tryd.results289 Tryd.ntmps289 rfl ?_
  repeat ((first | refine qA rfl ?_|refine qB ?_|refine qC rfl ?_|refine qD ?_|refine qE ?_|refine qF ?_|refine qG ?_|refine qH ?_);try simp (maxSteps:=1000000)(disch:=(first|omega|(simp only [qI,qJ,qK]<;>omega)|exact qL _)) only [go_sem,↓reduceIte,n0,reduceCtorEq,n1,n2,n3,n4,n5,i0,i1,i2,i3,i4,i5,i6,i7])
  refine W.scope 0 (fun ρ w' => w' = w ∧ ρ 5 = .int .i64 0) (fun _ _ => 0) rfl ?_ ?_
  rotate_left
  · rintro ρ w' ⟨rfl,h5⟩
    repeat ((first | refine qA rfl ?_|refine qB ?_|refine qC rfl ?_|refine qD ?_|refine qE ?_|refine qF ?_|refine qG ?_|refine qH ?_ | refine W.goto ?_ | refine W.label ?_);try simp (maxSteps:=1000000)(disch:=(first|omega|(simp only [qI,qJ,qK]<;>omega)|exact qL _)) only [go_sem,↓reduceIte,n0,reduceCtorEq,n1,n2,n3,n4,n5,i0,i1,i2,i3,i4,i5,i6,i7,jumpQ_ret,jumpQ_normal,h5])
  repeat ((first | refine qA rfl ?_|refine qB ?_|refine qC rfl ?_|refine qD ?_|refine qE ?_|refine qF ?_|refine qG ?_|refine qH ?_ | refine W.goto ?_ | refine W.label ?_);try simp (maxSteps:=1000000)(disch:=(first|omega|(simp only [qI,qJ,qK]<;>omega)|exact qL _)) only [go_sem,↓reduceIte,n0,reduceCtorEq,n1,n2,n3,n4,n5,i0,i1,i2,i3,i4,i5,i6,i7,jumpQ_ret,jumpQ_normal,jumpQ_goto])

set_option maxHeartbeats 1000000 in
theorem Uv_out1 {ok : Blocks} (v : Value) (b0 : UInt8) (w : World) (h : BytesV ok w v ([b0])) (g0 : ¬ b0.toNat < 128) : Fn Tryd.prog 289 #[v] w fun r w' => w' = w ∧ r = .tuple #[.int .u32 0,.int .i64 (0)] := by
  obtain ⟨B,o,c,x,rfl,hc,hok,hx,hq⟩ := h.cells (by simp)
  have q0 : x.1[o]? = some (.int .u8 b0.toNat) := hq 0 (by simp)
  clear hq h
  have hp0 := u8_lt b0
  generalize b0.toNat = p0 at *
  have hlt := blk_lt hx
  have k0 : IntKind.u8.wrap (((BitVec.ofInt (kbits .u8) (p0 : Int) &&& BitVec.ofInt (kbits .u8) 127).toNat : Nat) : Int) = ((p0 % 128 : Nat) : Int) := by rw [and127_u8 (by omega)];exact IntWalk.u8_in _ (by omega)
  have m0 : IntKind.u8.wrap (((BitVec.ofInt (kbits .u8) (p0 : Int) &&& BitVec.ofInt (kbits .u8) 128).toNat : Nat) : Int) = 128 := by rw [and128_hi (by omega) (by omega)];rfl
  have c0 : IntKind.u32.wrap ((p0 % 128 : Nat) : Int) = ((p0 % 128 : Nat) : Int) := u32_wrap (by omega)
  obtain ⟨a0,ha0⟩ : ∃ a,a = p0 % 128 := ⟨_,rfl⟩
  refine fn_of_W Tryd.func289 rfl Tryd.results289 Tryd.ntmps289 rfl ?_
  repeat ((first | refine qA rfl ?_|refine qB ?_|refine qC rfl ?_|refine qD ?_|refine qE ?_|refine qF ?_|refine qG ?_|refine qH ?_);try simp (maxSteps:=1000000)(disch:=(first|omega|(simp only [qI,qJ,qK]<;>omega)|exact qL _)) only [go_sem,↓reduceIte,n0,reduceCtorEq,n1,n2,n3,n4,n5,i0,i1,i2,i3,i4,i5,i6,i7])
  refine W.scope 0 (fun ρ w' => w' = w ∧ ρ 5 = .int .i64 0) (fun _ _ => 0) rfl ?_ ?_
  rotate_left
  · rintro ρ w' ⟨rfl,h5⟩
    repeat ((first | refine qA rfl ?_|refine qB ?_|refine qC rfl ?_|refine qD ?_|refine qE ?_|refine qF ?_|refine qG ?_|refine qH ?_ | refine W.goto ?_ | refine W.label ?_);try simp (maxSteps:=1000000)(disch:=(first|omega|(simp only [qI,qJ,qK]<;>omega)|exact qL _)) only [go_sem,↓reduceIte,n0,reduceCtorEq,n1,n2,n3,n4,n5,i0,i1,i2,i3,i4,i5,i6,i7,jumpQ_ret,jumpQ_normal,h5])
  repeat ((first | refine qA rfl ?_|refine qB ?_|refine qC rfl ?_|refine qD ?_|refine qE ?_|refine qF ?_|refine qG ?_|refine qH ?_ | refine W.goto ?_ | refine W.label ?_);try simp (maxSteps:=1000000)(disch:=(first|omega|(simp only [qI,qJ,qK]<;>omega)|exact qL _)) only [go_sem,↓reduceIte,n0,reduceCtorEq,n1,n2,n3,n4,n5,i0,i1,i2,i3,i4,i5,i6,i7,jumpQ_ret,jumpQ_normal,jumpQ_goto,q0,hx,k0,m0,c0])

set_option maxHeartbeats 1000000 in
theorem Uv_out2 {ok : Blocks} (v : Value) (b0 : UInt8) (b1 : UInt8) (w : World) (h : BytesV ok w v ([b0,b1])) (g0 : ¬ b0.toNat < 128) (g1 : ¬ b1.toNat < 128) : Fn Tryd.prog 289 #[v] w fun r w' => w' = w ∧ r = .tuple #[.int .u32 0,.int .i64 (0)] := by
  obtain ⟨B,o,c,x,rfl,hc,hok,hx,hq⟩ := h.cells (by simp)
  have q0 : x.1[o]? = some (.int .u8 b0.toNat) := hq 0 (by simp)
  have q1 : x.1[o + 1]? = some (.int .u8 b1.toNat) := hq 1 (by simp)
  clear hq h
  have hp0 := u8_lt b0
  generalize b0.toNat = p0 at *
  have hp1 := u8_lt b1
  generalize b1.toNat = p1 at *
  have hlt := blk_lt hx
  have k0 : IntKind.u8.wrap (((BitVec.ofInt (kbits .u8) (p0 : Int) &&& BitVec.ofInt (kbits .u8) 127).toNat : Nat) : Int) = ((p0 % 128 : Nat) : Int) := by rw [and127_u8 (by omega)];exact IntWalk.u8_in _ (by omega)
  have m0 : IntKind.u8.wrap (((BitVec.ofInt (kbits .u8) (p0 : Int) &&& BitVec.ofInt (kbits .u8) 128).toNat : Nat) : Int) = 128 := by rw [and128_hi (by omega) (by omega)];rfl
  have c0 : IntKind.u32.wrap ((p0 % 128 : Nat) : Int) = ((p0 % 128 : Nat) : Int) := u32_wrap (by omega)
  obtain ⟨a0,ha0⟩ : ∃ a,a = p0 % 128 := ⟨_,rfl⟩
  have k1 : IntKind.u8.wrap (((BitVec.ofInt (kbits .u8) (p1 : Int) &&& BitVec.ofInt (kbits .u8) 127).toNat : Nat) : Int) = ((p1 % 128 : Nat) : Int) := by rw [and127_u8 (by omega)];exact IntWalk.u8_in _ (by omega)
  have m1 : IntKind.u8.wrap (((BitVec.ofInt (kbits .u8) (p1 : Int) &&& BitVec.ofInt (kbits .u8) 128).toNat : Nat) : Int) = 128 := by rw [and128_hi (by omega) (by omega)];rfl
  have c1 : IntKind.u32.wrap ((p1 % 128 : Nat) : Int) = ((p1 % 128 : Nat) : Int) := u32_wrap (by omega)
  have s1 : IntKind.u32.wrap (((p1 % 128 : Nat) : Int) * 2 ^ (min 7 (kbits .u32))) = (((p1 % 128) * 2 ^ 7 : Nat) : Int) := by
    rw [show (2 : Int) ^ (min 7 (kbits .u32)) = 128 from rfl,show (2 : Nat) ^ 7 = 128 from rfl,u32_wrap (by omega)];omega
  have hA1 : p0 % 128 < 2 ^ 7 := by omega
  have o1 : (BitVec.ofInt (kbits .u32) ((p0 % 128 : Nat) : Int) ||| BitVec.ofInt (kbits .u32) (((p1 % 128) * 2 ^ 7 : Nat) : Int)).toNat = (p1 % 128) * 2 ^ 7 + p0 % 128 := or_shift (bits := 32) hA1 (by omega)
  obtain ⟨a1,ha1⟩ : ∃ a,a = (p1 % 128) * 2 ^ 7 + p0 % 128 := ⟨_,rfl⟩
  rw [← ha1] at o1
  have w1 : IntKind.u32.wrap ((a1 : Nat) : Int) = ((a1 : Nat) : Int) := u32_wrap (by omega)
  refine fn_of_W Tryd.func289 rfl Tryd.results289 Tryd.ntmps289 rfl ?_
  repeat ((first | refine qA rfl ?_|refine qB ?_|refine qC rfl ?_|refine qD ?_|refine qE ?_|refine qF ?_|refine qG ?_|refine qH ?_);try simp (maxSteps:=1000000)(disch:=(first|omega|(simp only [qI,qJ,qK]<;>omega)|exact qL _)) only [go_sem,↓reduceIte,n0,reduceCtorEq,n1,n2,n3,n4,n5,i0,i1,i2,i3,i4,i5,i6,i7])
  refine W.scope 0 (fun ρ w' => w' = w ∧ ρ 5 = .int .i64 0) (fun _ _ => 0) rfl ?_ ?_
  rotate_left
  · rintro ρ w' ⟨rfl,h5⟩
    repeat ((first | refine qA rfl ?_|refine qB ?_|refine qC rfl ?_|refine qD ?_|refine qE ?_|refine qF ?_|refine qG ?_|refine qH ?_ | refine W.goto ?_ | refine W.label ?_);try simp (maxSteps:=1000000)(disch:=(first|omega|(simp only [qI,qJ,qK]<;>omega)|exact qL _)) only [go_sem,↓reduceIte,n0,reduceCtorEq,n1,n2,n3,n4,n5,i0,i1,i2,i3,i4,i5,i6,i7,jumpQ_ret,jumpQ_normal,h5])
  repeat ((first | refine qA rfl ?_|refine qB ?_|refine qC rfl ?_|refine qD ?_|refine qE ?_|refine qF ?_|refine qG ?_|refine qH ?_ | refine W.goto ?_ | refine W.label ?_);try simp (maxSteps:=1000000)(disch:=(first|omega|(simp only [qI,qJ,qK]<;>omega)|exact qL _)) only [go_sem,↓reduceIte,n0,reduceCtorEq,n1,n2,n3,n4,n5,i0,i1,i2,i3,i4,i5,i6,i7,jumpQ_ret,jumpQ_normal,jumpQ_goto,q0,q1,hx,k0,m0,c0,k1,m1,c1,s1,o1,w1])

set_option maxHeartbeats 1000000 in
theorem Uv_out3 {ok : Blocks} (v : Value) (b0 : UInt8) (b1 : UInt8) (b2 : UInt8) (w : World) (h : BytesV ok w v ([b0,b1,b2])) (g0 : ¬ b0.toNat < 128) (g1 : ¬ b1.toNat < 128) (g2 : ¬ b2.toNat < 128) : Fn Tryd.prog 289 #[v] w fun r w' => w' = w ∧ r = .tuple #[.int .u32 0,.int .i64 (0)] := by
  obtain ⟨B,o,c,x,rfl,hc,hok,hx,hq⟩ := h.cells (by simp)
  have q0 : x.1[o]? = some (.int .u8 b0.toNat) := hq 0 (by simp)
  have q1 : x.1[o + 1]? = some (.int .u8 b1.toNat) := hq 1 (by simp)
  have q2 : x.1[o + 2]? = some (.int .u8 b2.toNat) := hq 2 (by simp)
  clear hq h
  have hp0 := u8_lt b0
  generalize b0.toNat = p0 at *
  have hp1 := u8_lt b1
  generalize b1.toNat = p1 at *
  have hp2 := u8_lt b2
  generalize b2.toNat = p2 at *
  have hlt := blk_lt hx
  have k0 : IntKind.u8.wrap (((BitVec.ofInt (kbits .u8) (p0 : Int) &&& BitVec.ofInt (kbits .u8) 127).toNat : Nat) : Int) = ((p0 % 128 : Nat) : Int) := by rw [and127_u8 (by omega)];exact IntWalk.u8_in _ (by omega)
  have m0 : IntKind.u8.wrap (((BitVec.ofInt (kbits .u8) (p0 : Int) &&& BitVec.ofInt (kbits .u8) 128).toNat : Nat) : Int) = 128 := by rw [and128_hi (by omega) (by omega)];rfl
  have c0 : IntKind.u32.wrap ((p0 % 128 : Nat) : Int) = ((p0 % 128 : Nat) : Int) := u32_wrap (by omega)
  obtain ⟨a0,ha0⟩ : ∃ a,a = p0 % 128 := ⟨_,rfl⟩
  have k1 : IntKind.u8.wrap (((BitVec.ofInt (kbits .u8) (p1 : Int) &&& BitVec.ofInt (kbits .u8) 127).toNat : Nat) : Int) = ((p1 % 128 : Nat) : Int) := by rw [and127_u8 (by omega)];exact IntWalk.u8_in _ (by omega)
  have m1 : IntKind.u8.wrap (((BitVec.ofInt (kbits .u8) (p1 : Int) &&& BitVec.ofInt (kbits .u8) 128).toNat : Nat) : Int) = 128 := by rw [and128_hi (by omega) (by omega)];rfl
  have c1 : IntKind.u32.wrap ((p1 % 128 : Nat) : Int) = ((p1 % 128 : Nat) : Int) := u32_wrap (by omega)
  have s1 : IntKind.u32.wrap (((p1 % 128 : Nat) : Int) * 2 ^ (min 7 (kbits .u32))) = (((p1 % 128) * 2 ^ 7 : Nat) : Int) := by
    rw [show (2 : Int) ^ (min 7 (kbits .u32)) = 128 from rfl,show (2 : Nat) ^ 7 = 128 from rfl,u32_wrap (by omega)];omega
  have hA1 : p0 % 128 < 2 ^ 7 := by omega
  have o1 : (BitVec.ofInt (kbits .u32) ((p0 % 128 : Nat) : Int) ||| BitVec.ofInt (kbits .u32) (((p1 % 128) * 2 ^ 7 : Nat) : Int)).toNat = (p1 % 128) * 2 ^ 7 + p0 % 128 := or_shift (bits := 32) hA1 (by omega)
  obtain ⟨a1,ha1⟩ : ∃ a,a = (p1 % 128) * 2 ^ 7 + p0 % 128 := ⟨_,rfl⟩
  rw [← ha1] at o1
  have w1 : IntKind.u32.wrap ((a1 : Nat) : Int) = ((a1 : Nat) : Int) := u32_wrap (by omega)
  have k2 : IntKind.u8.wrap (((BitVec.ofInt (kbits .u8) (p2 : Int) &&& BitVec.ofInt (kbits .u8) 127).toNat : Nat) : Int) = ((p2 % 128 : Nat) : Int) := by rw [and127_u8 (by omega)];exact IntWalk.u8_in _ (by omega)
  have m2 : IntKind.u8.wrap (((BitVec.ofInt (kbits .u8) (p2 : Int) &&& BitVec.ofInt (kbits .u8) 128).toNat : Nat) : Int) = 128 := by rw [and128_hi (by omega) (by omega)];rfl
  have c2 : IntKind.u32.wrap ((p2 % 128 : Nat) : Int) = ((p2 % 128 : Nat) : Int) := u32_wrap (by omega)
  have s2 : IntKind.u32.wrap (((p2 % 128 : Nat) : Int) * 2 ^ (min 14 (kbits .u32))) = (((p2 % 128) * 2 ^ 14 : Nat) : Int) := by
    rw [show (2 : Int) ^ (min 14 (kbits .u32)) = 16384 from rfl,show (2 : Nat) ^ 14 = 16384 from rfl,u32_wrap (by omega)];omega
  have hA2 : a1 < 2 ^ 14 := by omega
  have o2 : (BitVec.ofInt (kbits .u32) ((a1 : Nat) : Int) ||| BitVec.ofInt (kbits .u32) (((p2 % 128) * 2 ^ 14 : Nat) : Int)).toNat = (p2 % 128) * 2 ^ 14 + a1 := or_shift (bits := 32) hA2 (by omega)
  obtain ⟨a2,ha2⟩ : ∃ a,a = (p2 % 128) * 2 ^ 14 + a1 := ⟨_,rfl⟩
  rw [← ha2] at o2
  have w2 : IntKind.u32.wrap ((a2 : Nat) : Int) = ((a2 : Nat) : Int) := u32_wrap (by omega)
  refine fn_of_W Tryd.func289 rfl Tryd.results289 Tryd.ntmps289 rfl ?_
  repeat ((first | refine qA rfl ?_|refine qB ?_|refine qC rfl ?_|refine qD ?_|refine qE ?_|refine qF ?_|refine qG ?_|refine qH ?_);try simp (maxSteps:=1000000)(disch:=(first|omega|(simp only [qI,qJ,qK]<;>omega)|exact qL _)) only [go_sem,↓reduceIte,n0,reduceCtorEq,n1,n2,n3,n4,n5,i0,i1,i2,i3,i4,i5,i6,i7])
  refine W.scope 0 (fun ρ w' => w' = w ∧ ρ 5 = .int .i64 0) (fun _ _ => 0) rfl ?_ ?_
  rotate_left
  · rintro ρ w' ⟨rfl,h5⟩
    repeat ((first | refine qA rfl ?_|refine qB ?_|refine qC rfl ?_|refine qD ?_|refine qE ?_|refine qF ?_|refine qG ?_|refine qH ?_ | refine W.goto ?_ | refine W.label ?_);try simp (maxSteps:=1000000)(disch:=(first|omega|(simp only [qI,qJ,qK]<;>omega)|exact qL _)) only [go_sem,↓reduceIte,n0,reduceCtorEq,n1,n2,n3,n4,n5,i0,i1,i2,i3,i4,i5,i6,i7,jumpQ_ret,jumpQ_normal,h5])
  repeat ((first | refine qA rfl ?_|refine qB ?_|refine qC rfl ?_|refine qD ?_|refine qE ?_|refine qF ?_|refine qG ?_|refine qH ?_ | refine W.goto ?_ | refine W.label ?_);try simp (maxSteps:=1000000)(disch:=(first|omega|(simp only [qI,qJ,qK]<;>omega)|exact qL _)) only [go_sem,↓reduceIte,n0,reduceCtorEq,n1,n2,n3,n4,n5,i0,i1,i2,i3,i4,i5,i6,i7,jumpQ_ret,jumpQ_normal,jumpQ_goto,q0,q1,q2,hx,k0,m0,c0,k1,m1,c1,s1,o1,w1,k2,m2,c2,s2,o2,w2])

set_option maxHeartbeats 1000000 in
theorem Uv_out4 {ok : Blocks} (v : Value) (b0 : UInt8) (b1 : UInt8) (b2 : UInt8) (b3 : UInt8) (w : World) (h : BytesV ok w v ([b0,b1,b2,b3])) (g0 : ¬ b0.toNat < 128) (g1 : ¬ b1.toNat < 128) (g2 : ¬ b2.toNat < 128) (g3 : ¬ b3.toNat < 128) : Fn Tryd.prog 289 #[v] w fun r w' => w' = w ∧ r = .tuple #[.int .u32 0,.int .i64 (0)] := by
  obtain ⟨B,o,c,x,rfl,hc,hok,hx,hq⟩ := h.cells (by simp)
  have q0 : x.1[o]? = some (.int .u8 b0.toNat) := hq 0 (by simp)
  have q1 : x.1[o + 1]? = some (.int .u8 b1.toNat) := hq 1 (by simp)
  have q2 : x.1[o + 2]? = some (.int .u8 b2.toNat) := hq 2 (by simp)
  have q3 : x.1[o + 3]? = some (.int .u8 b3.toNat) := hq 3 (by simp)
  clear hq h
  have hp0 := u8_lt b0
  generalize b0.toNat = p0 at *
  have hp1 := u8_lt b1
  generalize b1.toNat = p1 at *
  have hp2 := u8_lt b2
  generalize b2.toNat = p2 at *
  have hp3 := u8_lt b3
  generalize b3.toNat = p3 at *
  have hlt := blk_lt hx
  have k0 : IntKind.u8.wrap (((BitVec.ofInt (kbits .u8) (p0 : Int) &&& BitVec.ofInt (kbits .u8) 127).toNat : Nat) : Int) = ((p0 % 128 : Nat) : Int) := by rw [and127_u8 (by omega)];exact IntWalk.u8_in _ (by omega)
  have m0 : IntKind.u8.wrap (((BitVec.ofInt (kbits .u8) (p0 : Int) &&& BitVec.ofInt (kbits .u8) 128).toNat : Nat) : Int) = 128 := by rw [and128_hi (by omega) (by omega)];rfl
  have c0 : IntKind.u32.wrap ((p0 % 128 : Nat) : Int) = ((p0 % 128 : Nat) : Int) := u32_wrap (by omega)
  obtain ⟨a0,ha0⟩ : ∃ a,a = p0 % 128 := ⟨_,rfl⟩
  have k1 : IntKind.u8.wrap (((BitVec.ofInt (kbits .u8) (p1 : Int) &&& BitVec.ofInt (kbits .u8) 127).toNat : Nat) : Int) = ((p1 % 128 : Nat) : Int) := by rw [and127_u8 (by omega)];exact IntWalk.u8_in _ (by omega)
  have m1 : IntKind.u8.wrap (((BitVec.ofInt (kbits .u8) (p1 : Int) &&& BitVec.ofInt (kbits .u8) 128).toNat : Nat) : Int) = 128 := by rw [and128_hi (by omega) (by omega)];rfl
  have c1 : IntKind.u32.wrap ((p1 % 128 : Nat) : Int) = ((p1 % 128 : Nat) : Int) := u32_wrap (by omega)
  have s1 : IntKind.u32.wrap (((p1 % 128 : Nat) : Int) * 2 ^ (min 7 (kbits .u32))) = (((p1 % 128) * 2 ^ 7 : Nat) : Int) := by
    rw [show (2 : Int) ^ (min 7 (kbits .u32)) = 128 from rfl,show (2 : Nat) ^ 7 = 128 from rfl,u32_wrap (by omega)];omega
  have hA1 : p0 % 128 < 2 ^ 7 := by omega
  have o1 : (BitVec.ofInt (kbits .u32) ((p0 % 128 : Nat) : Int) ||| BitVec.ofInt (kbits .u32) (((p1 % 128) * 2 ^ 7 : Nat) : Int)).toNat = (p1 % 128) * 2 ^ 7 + p0 % 128 := or_shift (bits := 32) hA1 (by omega)
  obtain ⟨a1,ha1⟩ : ∃ a,a = (p1 % 128) * 2 ^ 7 + p0 % 128 := ⟨_,rfl⟩
  rw [← ha1] at o1
  have w1 : IntKind.u32.wrap ((a1 : Nat) : Int) = ((a1 : Nat) : Int) := u32_wrap (by omega)
  have k2 : IntKind.u8.wrap (((BitVec.ofInt (kbits .u8) (p2 : Int) &&& BitVec.ofInt (kbits .u8) 127).toNat : Nat) : Int) = ((p2 % 128 : Nat) : Int) := by rw [and127_u8 (by omega)];exact IntWalk.u8_in _ (by omega)
  have m2 : IntKind.u8.wrap (((BitVec.ofInt (kbits .u8) (p2 : Int) &&& BitVec.ofInt (kbits .u8) 128).toNat : Nat) : Int) = 128 := by rw [and128_hi (by omega) (by omega)];rfl
  have c2 : IntKind.u32.wrap ((p2 % 128 : Nat) : Int) = ((p2 % 128 : Nat) : Int) := u32_wrap (by omega)
  have s2 : IntKind.u32.wrap (((p2 % 128 : Nat) : Int) * 2 ^ (min 14 (kbits .u32))) = (((p2 % 128) * 2 ^ 14 : Nat) : Int) := by
    rw [show (2 : Int) ^ (min 14 (kbits .u32)) = 16384 from rfl,show (2 : Nat) ^ 14 = 16384 from rfl,u32_wrap (by omega)];omega
  have hA2 : a1 < 2 ^ 14 := by omega
  have o2 : (BitVec.ofInt (kbits .u32) ((a1 : Nat) : Int) ||| BitVec.ofInt (kbits .u32) (((p2 % 128) * 2 ^ 14 : Nat) : Int)).toNat = (p2 % 128) * 2 ^ 14 + a1 := or_shift (bits := 32) hA2 (by omega)
  obtain ⟨a2,ha2⟩ : ∃ a,a = (p2 % 128) * 2 ^ 14 + a1 := ⟨_,rfl⟩
  rw [← ha2] at o2
  have w2 : IntKind.u32.wrap ((a2 : Nat) : Int) = ((a2 : Nat) : Int) := u32_wrap (by omega)
  have k3 : IntKind.u8.wrap (((BitVec.ofInt (kbits .u8) (p3 : Int) &&& BitVec.ofInt (kbits .u8) 127).toNat : Nat) : Int) = ((p3 % 128 : Nat) : Int) := by rw [and127_u8 (by omega)];exact IntWalk.u8_in _ (by omega)
  have m3 : IntKind.u8.wrap (((BitVec.ofInt (kbits .u8) (p3 : Int) &&& BitVec.ofInt (kbits .u8) 128).toNat : Nat) : Int) = 128 := by rw [and128_hi (by omega) (by omega)];rfl
  have c3 : IntKind.u32.wrap ((p3 % 128 : Nat) : Int) = ((p3 % 128 : Nat) : Int) := u32_wrap (by omega)
  have s3 : IntKind.u32.wrap (((p3 % 128 : Nat) : Int) * 2 ^ (min 21 (kbits .u32))) = (((p3 % 128) * 2 ^ 21 : Nat) : Int) := by
    rw [show (2 : Int) ^ (min 21 (kbits .u32)) = 2097152 from rfl,show (2 : Nat) ^ 21 = 2097152 from rfl,u32_wrap (by omega)];omega
  have hA3 : a2 < 2 ^ 21 := by omega
  have o3 : (BitVec.ofInt (kbits .u32) ((a2 : Nat) : Int) ||| BitVec.ofInt (kbits .u32) (((p3 % 128) * 2 ^ 21 : Nat) : Int)).toNat = (p3 % 128) * 2 ^ 21 + a2 := or_shift (bits := 32) hA3 (by omega)
  obtain ⟨a3,ha3⟩ : ∃ a,a = (p3 % 128) * 2 ^ 21 + a2 := ⟨_,rfl⟩
  rw [← ha3] at o3
  have w3 : IntKind.u32.wrap ((a3 : Nat) : Int) = ((a3 : Nat) : Int) := u32_wrap (by omega)
  refine fn_of_W Tryd.func289 rfl Tryd.results289 Tryd.ntmps289 rfl ?_
  repeat ((first | refine qA rfl ?_|refine qB ?_|refine qC rfl ?_|refine qD ?_|refine qE ?_|refine qF ?_|refine qG ?_|refine qH ?_);try simp (maxSteps:=1000000)(disch:=(first|omega|(simp only [qI,qJ,qK]<;>omega)|exact qL _)) only [go_sem,↓reduceIte,n0,reduceCtorEq,n1,n2,n3,n4,n5,i0,i1,i2,i3,i4,i5,i6,i7])
  refine W.scope 0 (fun ρ w' => w' = w ∧ ρ 5 = .int .i64 0) (fun _ _ => 0) rfl ?_ ?_
  rotate_left
  · rintro ρ w' ⟨rfl,h5⟩
    repeat ((first | refine qA rfl ?_|refine qB ?_|refine qC rfl ?_|refine qD ?_|refine qE ?_|refine qF ?_|refine qG ?_|refine qH ?_ | refine W.goto ?_ | refine W.label ?_);try simp (maxSteps:=1000000)(disch:=(first|omega|(simp only [qI,qJ,qK]<;>omega)|exact qL _)) only [go_sem,↓reduceIte,n0,reduceCtorEq,n1,n2,n3,n4,n5,i0,i1,i2,i3,i4,i5,i6,i7,jumpQ_ret,jumpQ_normal,h5])
  repeat ((first | refine qA rfl ?_|refine qB ?_|refine qC rfl ?_|refine qD ?_|refine qE ?_|refine qF ?_|refine qG ?_|refine qH ?_ | refine W.goto ?_ | refine W.label ?_);try simp (maxSteps:=1000000)(disch:=(first|omega|(simp only [qI,qJ,qK]<;>omega)|exact qL _)) only [go_sem,↓reduceIte,n0,reduceCtorEq,n1,n2,n3,n4,n5,i0,i1,i2,i3,i4,i5,i6,i7,jumpQ_ret,jumpQ_normal,jumpQ_goto,q0,q1,q2,q3,hx,k0,m0,c0,k1,m1,c1,s1,o1,w1,k2,m2,c2,s2,o2,w2,k3,m3,c3,s3,o3,w3])

set_option maxHeartbeats 1000000 in
theorem Uv_stop0 {ok : Blocks} (v : Value) (b0 : UInt8) (rest : List UInt8) (w : World) (h : BytesV ok w v (b0 :: rest))  (gl : b0.toNat < 128) : Fn Tryd.prog 289 #[v] w fun r w' => w' = w ∧ r = .tuple #[.int .u32 ((b0.toNat : Nat) : Int),.int .i64 1] := by
  obtain ⟨B,o,c,x,rfl,hc,hok,hx,hq⟩ := h.cells (by simp)
  have q0 : x.1[o]? = some (.int .u8 b0.toNat) := hq 0 (by simp)
  clear hq h
  have hp0 := u8_lt b0
  generalize b0.toNat = p0 at *
  have hlt := blk_lt hx
  have k0 : IntKind.u8.wrap (((BitVec.ofInt (kbits .u8) (p0 : Int) &&& BitVec.ofInt (kbits .u8) 127).toNat : Nat) : Int) = ((p0 % 128 : Nat) : Int) := by rw [and127_u8 (by omega)];exact IntWalk.u8_in _ (by omega)
  have m0 : IntKind.u8.wrap (((BitVec.ofInt (kbits .u8) (p0 : Int) &&& BitVec.ofInt (kbits .u8) 128).toNat : Nat) : Int) = 0 := by rw [and128_lo (by omega)];rfl
  have c0 : IntKind.u32.wrap ((p0 % 128 : Nat) : Int) = ((p0 % 128 : Nat) : Int) := u32_wrap (by omega)
  obtain ⟨a0,ha0⟩ : ∃ a,a = p0 % 128 := ⟨_,rfl⟩
  refine fn_of_W Tryd.func289 rfl Tryd.results289 Tryd.ntmps289 rfl ?_
  repeat ((first | refine qA rfl ?_|refine qB ?_|refine qC rfl ?_|refine qD ?_|refine qE ?_|refine qF ?_|refine qG ?_|refine qH ?_);try simp (maxSteps:=1000000)(disch:=(first|omega|(simp only [qI,qJ,qK]<;>omega)|exact qL _)) only [go_sem,↓reduceIte,n0,reduceCtorEq,n1,n2,n3,n4,n5,i0,i1,i2,i3,i4,i5,i6,i7])
  refine W.scope 0 (fun _ _ => False) (fun _ _ => 0) rfl ?_ (fun _ _ h => h.elim)
  repeat ((first | refine qA rfl ?_|refine qB ?_|refine qC rfl ?_|refine qD ?_|refine qE ?_|refine qF ?_|refine qG ?_|refine qH ?_ | refine W.goto ?_ | refine W.label ?_);try simp (maxSteps:=1000000)(disch:=(first|omega|(simp only [qI,qJ,qK]<;>omega)|exact qL _)) only [go_sem,↓reduceIte,n0,reduceCtorEq,n1,n2,n3,n4,n5,i0,i1,i2,i3,i4,i5,i6,i7,jumpQ_ret,jumpQ_normal,jumpQ_goto,q0,hx,k0,m0,c0])
  rw [show p0 % 128 = p0 by omega]

set_option maxHeartbeats 1000000 in
theorem Uv_stop1 {ok : Blocks} (v : Value) (b0 : UInt8) (b1 : UInt8) (rest : List UInt8) (w : World) (h : BytesV ok w v (b0 :: b1 :: rest)) (g0 : ¬ b0.toNat < 128) (gl : b1.toNat < 128) : Fn Tryd.prog 289 #[v] w fun r w' => w' = w ∧ r = .tuple #[.int .u32 (((b0.toNat % 128 + 128 * b1.toNat) : Nat) : Int),.int .i64 2] := by
  obtain ⟨B,o,c,x,rfl,hc,hok,hx,hq⟩ := h.cells (by simp)
  have q0 : x.1[o]? = some (.int .u8 b0.toNat) := hq 0 (by simp)
  have q1 : x.1[o + 1]? = some (.int .u8 b1.toNat) := hq 1 (by simp)
  clear hq h
  have hp0 := u8_lt b0
  generalize b0.toNat = p0 at *
  have hp1 := u8_lt b1
  generalize b1.toNat = p1 at *
  have hlt := blk_lt hx
  have k0 : IntKind.u8.wrap (((BitVec.ofInt (kbits .u8) (p0 : Int) &&& BitVec.ofInt (kbits .u8) 127).toNat : Nat) : Int) = ((p0 % 128 : Nat) : Int) := by rw [and127_u8 (by omega)];exact IntWalk.u8_in _ (by omega)
  have m0 : IntKind.u8.wrap (((BitVec.ofInt (kbits .u8) (p0 : Int) &&& BitVec.ofInt (kbits .u8) 128).toNat : Nat) : Int) = 128 := by rw [and128_hi (by omega) (by omega)];rfl
  have c0 : IntKind.u32.wrap ((p0 % 128 : Nat) : Int) = ((p0 % 128 : Nat) : Int) := u32_wrap (by omega)
  obtain ⟨a0,ha0⟩ : ∃ a,a = p0 % 128 := ⟨_,rfl⟩
  have k1 : IntKind.u8.wrap (((BitVec.ofInt (kbits .u8) (p1 : Int) &&& BitVec.ofInt (kbits .u8) 127).toNat : Nat) : Int) = ((p1 % 128 : Nat) : Int) := by rw [and127_u8 (by omega)];exact IntWalk.u8_in _ (by omega)
  have m1 : IntKind.u8.wrap (((BitVec.ofInt (kbits .u8) (p1 : Int) &&& BitVec.ofInt (kbits .u8) 128).toNat : Nat) : Int) = 0 := by rw [and128_lo (by omega)];rfl
  have c1 : IntKind.u32.wrap ((p1 % 128 : Nat) : Int) = ((p1 % 128 : Nat) : Int) := u32_wrap (by omega)
  have s1 : IntKind.u32.wrap (((p1 % 128 : Nat) : Int) * 2 ^ (min 7 (kbits .u32))) = (((p1 % 128) * 2 ^ 7 : Nat) : Int) := by
    rw [show (2 : Int) ^ (min 7 (kbits .u32)) = 128 from rfl,show (2 : Nat) ^ 7 = 128 from rfl,u32_wrap (by omega)];omega
  have hA1 : p0 % 128 < 2 ^ 7 := by omega
  have o1 : (BitVec.ofInt (kbits .u32) ((p0 % 128 : Nat) : Int) ||| BitVec.ofInt (kbits .u32) (((p1 % 128) * 2 ^ 7 : Nat) : Int)).toNat = (p1 % 128) * 2 ^ 7 + p0 % 128 := or_shift (bits := 32) hA1 (by omega)
  obtain ⟨a1,ha1⟩ : ∃ a,a = (p1 % 128) * 2 ^ 7 + p0 % 128 := ⟨_,rfl⟩
  rw [← ha1] at o1
  have w1 : IntKind.u32.wrap ((a1 : Nat) : Int) = ((a1 : Nat) : Int) := u32_wrap (by omega)
  refine fn_of_W Tryd.func289 rfl Tryd.results289 Tryd.ntmps289 rfl ?_
  repeat ((first | refine qA rfl ?_|refine qB ?_|refine qC rfl ?_|refine qD ?_|refine qE ?_|refine qF ?_|refine qG ?_|refine qH ?_);try simp (maxSteps:=1000000)(disch:=(first|omega|(simp only [qI,qJ,qK]<;>omega)|exact qL _)) only [go_sem,↓reduceIte,n0,reduceCtorEq,n1,n2,n3,n4,n5,i0,i1,i2,i3,i4,i5,i6,i7])
  refine W.scope 0 (fun _ _ => False) (fun _ _ => 0) rfl ?_ (fun _ _ h => h.elim)
  repeat ((first | refine qA rfl ?_|refine qB ?_|refine qC rfl ?_|refine qD ?_|refine qE ?_|refine qF ?_|refine qG ?_|refine qH ?_ | refine W.goto ?_ | refine W.label ?_);try simp (maxSteps:=1000000)(disch:=(first|omega|(simp only [qI,qJ,qK]<;>omega)|exact qL _)) only [go_sem,↓reduceIte,n0,reduceCtorEq,n1,n2,n3,n4,n5,i0,i1,i2,i3,i4,i5,i6,i7,jumpQ_ret,jumpQ_normal,jumpQ_goto,q0,q1,hx,k0,m0,c0,k1,m1,c1,s1,o1,w1])
  have hfin : (p0 % 128 + 128 * p1) = a1 := by omega
  rw [hfin]

set_option maxHeartbeats 1000000 in
theorem Uv_stop2 {ok : Blocks} (v : Value) (b0 : UInt8) (b1 : UInt8) (b2 : UInt8) (rest : List UInt8) (w : World) (h : BytesV ok w v (b0 :: b1 :: b2 :: rest)) (g0 : ¬ b0.toNat < 128) (g1 : ¬ b1.toNat < 128) (gl : b2.toNat < 128) : Fn Tryd.prog 289 #[v] w fun r w' => w' = w ∧ r = .tuple #[.int .u32 (((b0.toNat % 128 + 128 * (b1.toNat % 128 + 128 * b2.toNat)) : Nat) : Int),.int .i64 3] := by
  obtain ⟨B,o,c,x,rfl,hc,hok,hx,hq⟩ := h.cells (by simp)
  have q0 : x.1[o]? = some (.int .u8 b0.toNat) := hq 0 (by simp)
  have q1 : x.1[o + 1]? = some (.int .u8 b1.toNat) := hq 1 (by simp)
  have q2 : x.1[o + 2]? = some (.int .u8 b2.toNat) := hq 2 (by simp)
  clear hq h
  have hp0 := u8_lt b0
  generalize b0.toNat = p0 at *
  have hp1 := u8_lt b1
  generalize b1.toNat = p1 at *
  have hp2 := u8_lt b2
  generalize b2.toNat = p2 at *
  have hlt := blk_lt hx
  have k0 : IntKind.u8.wrap (((BitVec.ofInt (kbits .u8) (p0 : Int) &&& BitVec.ofInt (kbits .u8) 127).toNat : Nat) : Int) = ((p0 % 128 : Nat) : Int) := by rw [and127_u8 (by omega)];exact IntWalk.u8_in _ (by omega)
  have m0 : IntKind.u8.wrap (((BitVec.ofInt (kbits .u8) (p0 : Int) &&& BitVec.ofInt (kbits .u8) 128).toNat : Nat) : Int) = 128 := by rw [and128_hi (by omega) (by omega)];rfl
  have c0 : IntKind.u32.wrap ((p0 % 128 : Nat) : Int) = ((p0 % 128 : Nat) : Int) := u32_wrap (by omega)
  obtain ⟨a0,ha0⟩ : ∃ a,a = p0 % 128 := ⟨_,rfl⟩
  have k1 : IntKind.u8.wrap (((BitVec.ofInt (kbits .u8) (p1 : Int) &&& BitVec.ofInt (kbits .u8) 127).toNat : Nat) : Int) = ((p1 % 128 : Nat) : Int) := by rw [and127_u8 (by omega)];exact IntWalk.u8_in _ (by omega)
  have m1 : IntKind.u8.wrap (((BitVec.ofInt (kbits .u8) (p1 : Int) &&& BitVec.ofInt (kbits .u8) 128).toNat : Nat) : Int) = 128 := by rw [and128_hi (by omega) (by omega)];rfl
  have c1 : IntKind.u32.wrap ((p1 % 128 : Nat) : Int) = ((p1 % 128 : Nat) : Int) := u32_wrap (by omega)
  have s1 : IntKind.u32.wrap (((p1 % 128 : Nat) : Int) * 2 ^ (min 7 (kbits .u32))) = (((p1 % 128) * 2 ^ 7 : Nat) : Int) := by
    rw [show (2 : Int) ^ (min 7 (kbits .u32)) = 128 from rfl,show (2 : Nat) ^ 7 = 128 from rfl,u32_wrap (by omega)];omega
  have hA1 : p0 % 128 < 2 ^ 7 := by omega
  have o1 : (BitVec.ofInt (kbits .u32) ((p0 % 128 : Nat) : Int) ||| BitVec.ofInt (kbits .u32) (((p1 % 128) * 2 ^ 7 : Nat) : Int)).toNat = (p1 % 128) * 2 ^ 7 + p0 % 128 := or_shift (bits := 32) hA1 (by omega)
  obtain ⟨a1,ha1⟩ : ∃ a,a = (p1 % 128) * 2 ^ 7 + p0 % 128 := ⟨_,rfl⟩
  rw [← ha1] at o1
  have w1 : IntKind.u32.wrap ((a1 : Nat) : Int) = ((a1 : Nat) : Int) := u32_wrap (by omega)
  have k2 : IntKind.u8.wrap (((BitVec.ofInt (kbits .u8) (p2 : Int) &&& BitVec.ofInt (kbits .u8) 127).toNat : Nat) : Int) = ((p2 % 128 : Nat) : Int) := by rw [and127_u8 (by omega)];exact IntWalk.u8_in _ (by omega)
  have m2 : IntKind.u8.wrap (((BitVec.ofInt (kbits .u8) (p2 : Int) &&& BitVec.ofInt (kbits .u8) 128).toNat : Nat) : Int) = 0 := by rw [and128_lo (by omega)];rfl
  have c2 : IntKind.u32.wrap ((p2 % 128 : Nat) : Int) = ((p2 % 128 : Nat) : Int) := u32_wrap (by omega)
  have s2 : IntKind.u32.wrap (((p2 % 128 : Nat) : Int) * 2 ^ (min 14 (kbits .u32))) = (((p2 % 128) * 2 ^ 14 : Nat) : Int) := by
    rw [show (2 : Int) ^ (min 14 (kbits .u32)) = 16384 from rfl,show (2 : Nat) ^ 14 = 16384 from rfl,u32_wrap (by omega)];omega
  have hA2 : a1 < 2 ^ 14 := by omega
  have o2 : (BitVec.ofInt (kbits .u32) ((a1 : Nat) : Int) ||| BitVec.ofInt (kbits .u32) (((p2 % 128) * 2 ^ 14 : Nat) : Int)).toNat = (p2 % 128) * 2 ^ 14 + a1 := or_shift (bits := 32) hA2 (by omega)
  obtain ⟨a2,ha2⟩ : ∃ a,a = (p2 % 128) * 2 ^ 14 + a1 := ⟨_,rfl⟩
  rw [← ha2] at o2
  have w2 : IntKind.u32.wrap ((a2 : Nat) : Int) = ((a2 : Nat) : Int) := u32_wrap (by omega)
  refine fn_of_W Tryd.func289 rfl Tryd.results289 Tryd.ntmps289 rfl ?_
  repeat ((first | refine qA rfl ?_|refine qB ?_|refine qC rfl ?_|refine qD ?_|refine qE ?_|refine qF ?_|refine qG ?_|refine qH ?_);try simp (maxSteps:=1000000)(disch:=(first|omega|(simp only [qI,qJ,qK]<;>omega)|exact qL _)) only [go_sem,↓reduceIte,n0,reduceCtorEq,n1,n2,n3,n4,n5,i0,i1,i2,i3,i4,i5,i6,i7])
  refine W.scope 0 (fun _ _ => False) (fun _ _ => 0) rfl ?_ (fun _ _ h => h.elim)
  repeat ((first | refine qA rfl ?_|refine qB ?_|refine qC rfl ?_|refine qD ?_|refine qE ?_|refine qF ?_|refine qG ?_|refine qH ?_ | refine W.goto ?_ | refine W.label ?_);try simp (maxSteps:=1000000)(disch:=(first|omega|(simp only [qI,qJ,qK]<;>omega)|exact qL _)) only [go_sem,↓reduceIte,n0,reduceCtorEq,n1,n2,n3,n4,n5,i0,i1,i2,i3,i4,i5,i6,i7,jumpQ_ret,jumpQ_normal,jumpQ_goto,q0,q1,q2,hx,k0,m0,c0,k1,m1,c1,s1,o1,w1,k2,m2,c2,s2,o2,w2])
  have hfin : (p0 % 128 + 128 * (p1 % 128 + 128 * p2)) = a2 := by omega
  rw [hfin]

set_option maxHeartbeats 1000000 in
theorem Uv_stop3 {ok : Blocks} (v : Value) (b0 : UInt8) (b1 : UInt8) (b2 : UInt8) (b3 : UInt8) (rest : List UInt8) (w : World) (h : BytesV ok w v (b0 :: b1 :: b2 :: b3 :: rest)) (g0 : ¬ b0.toNat < 128) (g1 : ¬ b1.toNat < 128) (g2 : ¬ b2.toNat < 128) (gl : b3.toNat < 128) : Fn Tryd.prog 289 #[v] w fun r w' => w' = w ∧ r = .tuple #[.int .u32 (((b0.toNat % 128 + 128 * (b1.toNat % 128 + 128 * (b2.toNat % 128 + 128 * b3.toNat))) : Nat) : Int),.int .i64 4] := by
  obtain ⟨B,o,c,x,rfl,hc,hok,hx,hq⟩ := h.cells (by simp)
  have q0 : x.1[o]? = some (.int .u8 b0.toNat) := hq 0 (by simp)
  have q1 : x.1[o + 1]? = some (.int .u8 b1.toNat) := hq 1 (by simp)
  have q2 : x.1[o + 2]? = some (.int .u8 b2.toNat) := hq 2 (by simp)
  have q3 : x.1[o + 3]? = some (.int .u8 b3.toNat) := hq 3 (by simp)
  clear hq h
  have hp0 := u8_lt b0
  generalize b0.toNat = p0 at *
  have hp1 := u8_lt b1
  generalize b1.toNat = p1 at *
  have hp2 := u8_lt b2
  generalize b2.toNat = p2 at *
  have hp3 := u8_lt b3
  generalize b3.toNat = p3 at *
  have hlt := blk_lt hx
  have k0 : IntKind.u8.wrap (((BitVec.ofInt (kbits .u8) (p0 : Int) &&& BitVec.ofInt (kbits .u8) 127).toNat : Nat) : Int) = ((p0 % 128 : Nat) : Int) := by rw [and127_u8 (by omega)];exact IntWalk.u8_in _ (by omega)
  have m0 : IntKind.u8.wrap (((BitVec.ofInt (kbits .u8) (p0 : Int) &&& BitVec.ofInt (kbits .u8) 128).toNat : Nat) : Int) = 128 := by rw [and128_hi (by omega) (by omega)];rfl
  have c0 : IntKind.u32.wrap ((p0 % 128 : Nat) : Int) = ((p0 % 128 : Nat) : Int) := u32_wrap (by omega)
  obtain ⟨a0,ha0⟩ : ∃ a,a = p0 % 128 := ⟨_,rfl⟩
  have k1 : IntKind.u8.wrap (((BitVec.ofInt (kbits .u8) (p1 : Int) &&& BitVec.ofInt (kbits .u8) 127).toNat : Nat) : Int) = ((p1 % 128 : Nat) : Int) := by rw [and127_u8 (by omega)];exact IntWalk.u8_in _ (by omega)
  have m1 : IntKind.u8.wrap (((BitVec.ofInt (kbits .u8) (p1 : Int) &&& BitVec.ofInt (kbits .u8) 128).toNat : Nat) : Int) = 128 := by rw [and128_hi (by omega) (by omega)];rfl
  have c1 : IntKind.u32.wrap ((p1 % 128 : Nat) : Int) = ((p1 % 128 : Nat) : Int) := u32_wrap (by omega)
  have s1 : IntKind.u32.wrap (((p1 % 128 : Nat) : Int) * 2 ^ (min 7 (kbits .u32))) = (((p1 % 128) * 2 ^ 7 : Nat) : Int) := by
    rw [show (2 : Int) ^ (min 7 (kbits .u32)) = 128 from rfl,show (2 : Nat) ^ 7 = 128 from rfl,u32_wrap (by omega)];omega
  have hA1 : p0 % 128 < 2 ^ 7 := by omega
  have o1 : (BitVec.ofInt (kbits .u32) ((p0 % 128 : Nat) : Int) ||| BitVec.ofInt (kbits .u32) (((p1 % 128) * 2 ^ 7 : Nat) : Int)).toNat = (p1 % 128) * 2 ^ 7 + p0 % 128 := or_shift (bits := 32) hA1 (by omega)
  obtain ⟨a1,ha1⟩ : ∃ a,a = (p1 % 128) * 2 ^ 7 + p0 % 128 := ⟨_,rfl⟩
  rw [← ha1] at o1
  have w1 : IntKind.u32.wrap ((a1 : Nat) : Int) = ((a1 : Nat) : Int) := u32_wrap (by omega)
  have k2 : IntKind.u8.wrap (((BitVec.ofInt (kbits .u8) (p2 : Int) &&& BitVec.ofInt (kbits .u8) 127).toNat : Nat) : Int) = ((p2 % 128 : Nat) : Int) := by rw [and127_u8 (by omega)];exact IntWalk.u8_in _ (by omega)
  have m2 : IntKind.u8.wrap (((BitVec.ofInt (kbits .u8) (p2 : Int) &&& BitVec.ofInt (kbits .u8) 128).toNat : Nat) : Int) = 128 := by rw [and128_hi (by omega) (by omega)];rfl
  have c2 : IntKind.u32.wrap ((p2 % 128 : Nat) : Int) = ((p2 % 128 : Nat) : Int) := u32_wrap (by omega)
  have s2 : IntKind.u32.wrap (((p2 % 128 : Nat) : Int) * 2 ^ (min 14 (kbits .u32))) = (((p2 % 128) * 2 ^ 14 : Nat) : Int) := by
    rw [show (2 : Int) ^ (min 14 (kbits .u32)) = 16384 from rfl,show (2 : Nat) ^ 14 = 16384 from rfl,u32_wrap (by omega)];omega
  have hA2 : a1 < 2 ^ 14 := by omega
  have o2 : (BitVec.ofInt (kbits .u32) ((a1 : Nat) : Int) ||| BitVec.ofInt (kbits .u32) (((p2 % 128) * 2 ^ 14 : Nat) : Int)).toNat = (p2 % 128) * 2 ^ 14 + a1 := or_shift (bits := 32) hA2 (by omega)
  obtain ⟨a2,ha2⟩ : ∃ a,a = (p2 % 128) * 2 ^ 14 + a1 := ⟨_,rfl⟩
  rw [← ha2] at o2
  have w2 : IntKind.u32.wrap ((a2 : Nat) : Int) = ((a2 : Nat) : Int) := u32_wrap (by omega)
  have k3 : IntKind.u8.wrap (((BitVec.ofInt (kbits .u8) (p3 : Int) &&& BitVec.ofInt (kbits .u8) 127).toNat : Nat) : Int) = ((p3 % 128 : Nat) : Int) := by rw [and127_u8 (by omega)];exact IntWalk.u8_in _ (by omega)
  have m3 : IntKind.u8.wrap (((BitVec.ofInt (kbits .u8) (p3 : Int) &&& BitVec.ofInt (kbits .u8) 128).toNat : Nat) : Int) = 0 := by rw [and128_lo (by omega)];rfl
  have c3 : IntKind.u32.wrap ((p3 % 128 : Nat) : Int) = ((p3 % 128 : Nat) : Int) := u32_wrap (by omega)
  have s3 : IntKind.u32.wrap (((p3 % 128 : Nat) : Int) * 2 ^ (min 21 (kbits .u32))) = (((p3 % 128) * 2 ^ 21 : Nat) : Int) := by
    rw [show (2 : Int) ^ (min 21 (kbits .u32)) = 2097152 from rfl,show (2 : Nat) ^ 21 = 2097152 from rfl,u32_wrap (by omega)];omega
  have hA3 : a2 < 2 ^ 21 := by omega
  have o3 : (BitVec.ofInt (kbits .u32) ((a2 : Nat) : Int) ||| BitVec.ofInt (kbits .u32) (((p3 % 128) * 2 ^ 21 : Nat) : Int)).toNat = (p3 % 128) * 2 ^ 21 + a2 := or_shift (bits := 32) hA3 (by omega)
  obtain ⟨a3,ha3⟩ : ∃ a,a = (p3 % 128) * 2 ^ 21 + a2 := ⟨_,rfl⟩
  rw [← ha3] at o3
  have w3 : IntKind.u32.wrap ((a3 : Nat) : Int) = ((a3 : Nat) : Int) := u32_wrap (by omega)
  refine fn_of_W Tryd.func289 rfl Tryd.results289 Tryd.ntmps289 rfl ?_
  repeat ((first | refine qA rfl ?_|refine qB ?_|refine qC rfl ?_|refine qD ?_|refine qE ?_|refine qF ?_|refine qG ?_|refine qH ?_);try simp (maxSteps:=1000000)(disch:=(first|omega|(simp only [qI,qJ,qK]<;>omega)|exact qL _)) only [go_sem,↓reduceIte,n0,reduceCtorEq,n1,n2,n3,n4,n5,i0,i1,i2,i3,i4,i5,i6,i7])
  refine W.scope 0 (fun _ _ => False) (fun _ _ => 0) rfl ?_ (fun _ _ h => h.elim)
  repeat ((first | refine qA rfl ?_|refine qB ?_|refine qC rfl ?_|refine qD ?_|refine qE ?_|refine qF ?_|refine qG ?_|refine qH ?_ | refine W.goto ?_ | refine W.label ?_);try simp (maxSteps:=1000000)(disch:=(first|omega|(simp only [qI,qJ,qK]<;>omega)|exact qL _)) only [go_sem,↓reduceIte,n0,reduceCtorEq,n1,n2,n3,n4,n5,i0,i1,i2,i3,i4,i5,i6,i7,jumpQ_ret,jumpQ_normal,jumpQ_goto,q0,q1,q2,q3,hx,k0,m0,c0,k1,m1,c1,s1,o1,w1,k2,m2,c2,s2,o2,w2,k3,m3,c3,s3,o3,w3])
  have hfin : (p0 % 128 + 128 * (p1 % 128 + 128 * (p2 % 128 + 128 * p3))) = a3 := by omega
  rw [hfin]

set_option maxHeartbeats 1000000 in
theorem Uv_stop4 {ok : Blocks} (v : Value) (b0 : UInt8) (b1 : UInt8) (b2 : UInt8) (b3 : UInt8) (b4 : UInt8) (rest : List UInt8) (w : World) (h : BytesV ok w v (b0 :: b1 :: b2 :: b3 :: b4 :: rest)) (g0 : ¬ b0.toNat < 128) (g1 : ¬ b1.toNat < 128) (g2 : ¬ b2.toNat < 128) (g3 : ¬ b3.toNat < 128) (gl : b4.toNat ≤ 15) : Fn Tryd.prog 289 #[v] w fun r w' => w' = w ∧ r = .tuple #[.int .u32 (((b0.toNat % 128 + 128 * (b1.toNat % 128 + 128 * (b2.toNat % 128 + 128 * (b3.toNat % 128 + 128 * b4.toNat)))) : Nat) : Int),.int .i64 5] := by
  obtain ⟨B,o,c,x,rfl,hc,hok,hx,hq⟩ := h.cells (by simp)
  have q0 : x.1[o]? = some (.int .u8 b0.toNat) := hq 0 (by simp)
  have q1 : x.1[o + 1]? = some (.int .u8 b1.toNat) := hq 1 (by simp)
  have q2 : x.1[o + 2]? = some (.int .u8 b2.toNat) := hq 2 (by simp)
  have q3 : x.1[o + 3]? = some (.int .u8 b3.toNat) := hq 3 (by simp)
  have q4 : x.1[o + 4]? = some (.int .u8 b4.toNat) := hq 4 (by simp)
  clear hq h
  have hp0 := u8_lt b0
  generalize b0.toNat = p0 at *
  have hp1 := u8_lt b1
  generalize b1.toNat = p1 at *
  have hp2 := u8_lt b2
  generalize b2.toNat = p2 at *
  have hp3 := u8_lt b3
  generalize b3.toNat = p3 at *
  have hp4 := u8_lt b4
  generalize b4.toNat = p4 at *
  have hlt := blk_lt hx
  have k0 : IntKind.u8.wrap (((BitVec.ofInt (kbits .u8) (p0 : Int) &&& BitVec.ofInt (kbits .u8) 127).toNat : Nat) : Int) = ((p0 % 128 : Nat) : Int) := by rw [and127_u8 (by omega)];exact IntWalk.u8_in _ (by omega)
  have m0 : IntKind.u8.wrap (((BitVec.ofInt (kbits .u8) (p0 : Int) &&& BitVec.ofInt (kbits .u8) 128).toNat : Nat) : Int) = 128 := by rw [and128_hi (by omega) (by omega)];rfl
  have c0 : IntKind.u32.wrap ((p0 % 128 : Nat) : Int) = ((p0 % 128 : Nat) : Int) := u32_wrap (by omega)
  obtain ⟨a0,ha0⟩ : ∃ a,a = p0 % 128 := ⟨_,rfl⟩
  have k1 : IntKind.u8.wrap (((BitVec.ofInt (kbits .u8) (p1 : Int) &&& BitVec.ofInt (kbits .u8) 127).toNat : Nat) : Int) = ((p1 % 128 : Nat) : Int) := by rw [and127_u8 (by omega)];exact IntWalk.u8_in _ (by omega)
  have m1 : IntKind.u8.wrap (((BitVec.ofInt (kbits .u8) (p1 : Int) &&& BitVec.ofInt (kbits .u8) 128).toNat : Nat) : Int) = 128 := by rw [and128_hi (by omega) (by omega)];rfl
  have c1 : IntKind.u32.wrap ((p1 % 128 : Nat) : Int) = ((p1 % 128 : Nat) : Int) := u32_wrap (by omega)
  have s1 : IntKind.u32.wrap (((p1 % 128 : Nat) : Int) * 2 ^ (min 7 (kbits .u32))) = (((p1 % 128) * 2 ^ 7 : Nat) : Int) := by
    rw [show (2 : Int) ^ (min 7 (kbits .u32)) = 128 from rfl,show (2 : Nat) ^ 7 = 128 from rfl,u32_wrap (by omega)];omega
  have hA1 : p0 % 128 < 2 ^ 7 := by omega
  have o1 : (BitVec.ofInt (kbits .u32) ((p0 % 128 : Nat) : Int) ||| BitVec.ofInt (kbits .u32) (((p1 % 128) * 2 ^ 7 : Nat) : Int)).toNat = (p1 % 128) * 2 ^ 7 + p0 % 128 := or_shift (bits := 32) hA1 (by omega)
  obtain ⟨a1,ha1⟩ : ∃ a,a = (p1 % 128) * 2 ^ 7 + p0 % 128 := ⟨_,rfl⟩
  rw [← ha1] at o1
  have w1 : IntKind.u32.wrap ((a1 : Nat) : Int) = ((a1 : Nat) : Int) := u32_wrap (by omega)
  have k2 : IntKind.u8.wrap (((BitVec.ofInt (kbits .u8) (p2 : Int) &&& BitVec.ofInt (kbits .u8) 127).toNat : Nat) : Int) = ((p2 % 128 : Nat) : Int) := by rw [and127_u8 (by omega)];exact IntWalk.u8_in _ (by omega)
  have m2 : IntKind.u8.wrap (((BitVec.ofInt (kbits .u8) (p2 : Int) &&& BitVec.ofInt (kbits .u8) 128).toNat : Nat) : Int) = 128 := by rw [and128_hi (by omega) (by omega)];rfl
  have c2 : IntKind.u32.wrap ((p2 % 128 : Nat) : Int) = ((p2 % 128 : Nat) : Int) := u32_wrap (by omega)
  have s2 : IntKind.u32.wrap (((p2 % 128 : Nat) : Int) * 2 ^ (min 14 (kbits .u32))) = (((p2 % 128) * 2 ^ 14 : Nat) : Int) := by
    rw [show (2 : Int) ^ (min 14 (kbits .u32)) = 16384 from rfl,show (2 : Nat) ^ 14 = 16384 from rfl,u32_wrap (by omega)];omega
  have hA2 : a1 < 2 ^ 14 := by omega
  have o2 : (BitVec.ofInt (kbits .u32) ((a1 : Nat) : Int) ||| BitVec.ofInt (kbits .u32) (((p2 % 128) * 2 ^ 14 : Nat) : Int)).toNat = (p2 % 128) * 2 ^ 14 + a1 := or_shift (bits := 32) hA2 (by omega)
  obtain ⟨a2,ha2⟩ : ∃ a,a = (p2 % 128) * 2 ^ 14 + a1 := ⟨_,rfl⟩
  rw [← ha2] at o2
  have w2 : IntKind.u32.wrap ((a2 : Nat) : Int) = ((a2 : Nat) : Int) := u32_wrap (by omega)
  have k3 : IntKind.u8.wrap (((BitVec.ofInt (kbits .u8) (p3 : Int) &&& BitVec.ofInt (kbits .u8) 127).toNat : Nat) : Int) = ((p3 % 128 : Nat) : Int) := by rw [and127_u8 (by omega)];exact IntWalk.u8_in _ (by omega)
  have m3 : IntKind.u8.wrap (((BitVec.ofInt (kbits .u8) (p3 : Int) &&& BitVec.ofInt (kbits .u8) 128).toNat : Nat) : Int) = 128 := by rw [and128_hi (by omega) (by omega)];rfl
  have c3 : IntKind.u32.wrap ((p3 % 128 : Nat) : Int) = ((p3 % 128 : Nat) : Int) := u32_wrap (by omega)
  have s3 : IntKind.u32.wrap (((p3 % 128 : Nat) : Int) * 2 ^ (min 21 (kbits .u32))) = (((p3 % 128) * 2 ^ 21 : Nat) : Int) := by
    rw [show (2 : Int) ^ (min 21 (kbits .u32)) = 2097152 from rfl,show (2 : Nat) ^ 21 = 2097152 from rfl,u32_wrap (by omega)];omega
  have hA3 : a2 < 2 ^ 21 := by omega
  have o3 : (BitVec.ofInt (kbits .u32) ((a2 : Nat) : Int) ||| BitVec.ofInt (kbits .u32) (((p3 % 128) * 2 ^ 21 : Nat) : Int)).toNat = (p3 % 128) * 2 ^ 21 + a2 := or_shift (bits := 32) hA3 (by omega)
  obtain ⟨a3,ha3⟩ : ∃ a,a = (p3 % 128) * 2 ^ 21 + a2 := ⟨_,rfl⟩
  rw [← ha3] at o3
  have w3 : IntKind.u32.wrap ((a3 : Nat) : Int) = ((a3 : Nat) : Int) := u32_wrap (by omega)
  have c4 : IntKind.u32.wrap (p4 : Int) = (p4 : Int) := u32_wrap (by omega)
  have s4 : IntKind.u32.wrap ((p4 : Int) * 2 ^ (min 28 (kbits .u32))) = (((p4) * 2 ^ 28 : Nat) : Int) := by
    rw [show (2 : Int) ^ (min 28 (kbits .u32)) = 268435456 from rfl,show (2 : Nat) ^ 28 = 268435456 from rfl,u32_wrap (by omega)];omega
  have hA4 : a3 < 2 ^ 28 := by omega
  have o4 : (BitVec.ofInt (kbits .u32) ((a3 : Nat) : Int) ||| BitVec.ofInt (kbits .u32) (((p4) * 2 ^ 28 : Nat) : Int)).toNat = (p4) * 2 ^ 28 + a3 := or_shift (bits := 32) hA4 (by omega)
  obtain ⟨a4,ha4⟩ : ∃ a,a = (p4) * 2 ^ 28 + a3 := ⟨_,rfl⟩
  rw [← ha4] at o4
  have w4 : IntKind.u32.wrap ((a4 : Nat) : Int) = ((a4 : Nat) : Int) := u32_wrap (by omega)
  refine fn_of_W Tryd.func289 rfl Tryd.results289 Tryd.ntmps289 rfl ?_
  repeat ((first | refine qA rfl ?_|refine qB ?_|refine qC rfl ?_|refine qD ?_|refine qE ?_|refine qF ?_|refine qG ?_|refine qH ?_);try simp (maxSteps:=1000000)(disch:=(first|omega|(simp only [qI,qJ,qK]<;>omega)|exact qL _)) only [go_sem,↓reduceIte,n0,reduceCtorEq,n1,n2,n3,n4,n5,i0,i1,i2,i3,i4,i5,i6,i7])
  refine W.scope 0 (fun _ _ => False) (fun _ _ => 0) rfl ?_ (fun _ _ h => h.elim)
  repeat ((first | refine qA rfl ?_|refine qB ?_|refine qC rfl ?_|refine qD ?_|refine qE ?_|refine qF ?_|refine qG ?_|refine qH ?_ | refine W.goto ?_ | refine W.label ?_);try simp (maxSteps:=1000000)(disch:=(first|omega|(simp only [qI,qJ,qK]<;>omega)|exact qL _)) only [go_sem,↓reduceIte,n0,reduceCtorEq,n1,n2,n3,n4,n5,i0,i1,i2,i3,i4,i5,i6,i7,jumpQ_ret,jumpQ_normal,jumpQ_goto,q0,q1,q2,q3,q4,hx,k0,m0,c0,k1,m1,c1,s1,o1,w1,k2,m2,c2,s2,o2,w2,k3,m3,c3,s3,o3,w3,c4,s4,o4,w4])
  have hfin : (p0 % 128 + 128 * (p1 % 128 + 128 * (p2 % 128 + 128 * (p3 % 128 + 128 * p4)))) = a4 := by omega
  rw [hfin]

set_option maxHeartbeats 1000000 in
theorem Uv_over {ok : Blocks} (v : Value) (b0 : UInt8) (b1 : UInt8) (b2 : UInt8) (b3 : UInt8) (b4 : UInt8) (rest : List UInt8) (w : World) (h : BytesV ok w v (b0 :: b1 :: b2 :: b3 :: b4 :: rest)) (g0 : ¬ b0.toNat < 128) (g1 : ¬ b1.toNat < 128) (g2 : ¬ b2.toNat < 128) (g3 : ¬ b3.toNat < 128) (gl : ¬ b4.toNat ≤ 15) : Fn Tryd.prog 289 #[v] w fun r w' => w' = w ∧ r = .tuple #[.int .u32 0,.int .i64 (-5)] := by
  obtain ⟨B,o,c,x,rfl,hc,hok,hx,hq⟩ := h.cells (by simp)
  have q0 : x.1[o]? = some (.int .u8 b0.toNat) := hq 0 (by simp)
  have q1 : x.1[o + 1]? = some (.int .u8 b1.toNat) := hq 1 (by simp)
  have q2 : x.1[o + 2]? = some (.int .u8 b2.toNat) := hq 2 (by simp)
  have q3 : x.1[o + 3]? = some (.int .u8 b3.toNat) := hq 3 (by simp)
  have q4 : x.1[o + 4]? = some (.int .u8 b4.toNat) := hq 4 (by simp)
  clear hq h
  have hp0 := u8_lt b0
  generalize b0.toNat = p0 at *
  have hp1 := u8_lt b1
  generalize b1.toNat = p1 at *
  have hp2 := u8_lt b2
  generalize b2.toNat = p2 at *
  have hp3 := u8_lt b3
  generalize b3.toNat = p3 at *
  have hp4 := u8_lt b4
  generalize b4.toNat = p4 at *
  have hlt := blk_lt hx
  have k0 : IntKind.u8.wrap (((BitVec.ofInt (kbits .u8) (p0 : Int) &&& BitVec.ofInt (kbits .u8) 127).toNat : Nat) : Int) = ((p0 % 128 : Nat) : Int) := by rw [and127_u8 (by omega)];exact IntWalk.u8_in _ (by omega)
  have m0 : IntKind.u8.wrap (((BitVec.ofInt (kbits .u8) (p0 : Int) &&& BitVec.ofInt (kbits .u8) 128).toNat : Nat) : Int) = 128 := by rw [and128_hi (by omega) (by omega)];rfl
  have c0 : IntKind.u32.wrap ((p0 % 128 : Nat) : Int) = ((p0 % 128 : Nat) : Int) := u32_wrap (by omega)
  obtain ⟨a0,ha0⟩ : ∃ a,a = p0 % 128 := ⟨_,rfl⟩
  have k1 : IntKind.u8.wrap (((BitVec.ofInt (kbits .u8) (p1 : Int) &&& BitVec.ofInt (kbits .u8) 127).toNat : Nat) : Int) = ((p1 % 128 : Nat) : Int) := by rw [and127_u8 (by omega)];exact IntWalk.u8_in _ (by omega)
  have m1 : IntKind.u8.wrap (((BitVec.ofInt (kbits .u8) (p1 : Int) &&& BitVec.ofInt (kbits .u8) 128).toNat : Nat) : Int) = 128 := by rw [and128_hi (by omega) (by omega)];rfl
  have c1 : IntKind.u32.wrap ((p1 % 128 : Nat) : Int) = ((p1 % 128 : Nat) : Int) := u32_wrap (by omega)
  have s1 : IntKind.u32.wrap (((p1 % 128 : Nat) : Int) * 2 ^ (min 7 (kbits .u32))) = (((p1 % 128) * 2 ^ 7 : Nat) : Int) := by
    rw [show (2 : Int) ^ (min 7 (kbits .u32)) = 128 from rfl,show (2 : Nat) ^ 7 = 128 from rfl,u32_wrap (by omega)];omega
  have hA1 : p0 % 128 < 2 ^ 7 := by omega
  have o1 : (BitVec.ofInt (kbits .u32) ((p0 % 128 : Nat) : Int) ||| BitVec.ofInt (kbits .u32) (((p1 % 128) * 2 ^ 7 : Nat) : Int)).toNat = (p1 % 128) * 2 ^ 7 + p0 % 128 := or_shift (bits := 32) hA1 (by omega)
  obtain ⟨a1,ha1⟩ : ∃ a,a = (p1 % 128) * 2 ^ 7 + p0 % 128 := ⟨_,rfl⟩
  rw [← ha1] at o1
  have w1 : IntKind.u32.wrap ((a1 : Nat) : Int) = ((a1 : Nat) : Int) := u32_wrap (by omega)
  have k2 : IntKind.u8.wrap (((BitVec.ofInt (kbits .u8) (p2 : Int) &&& BitVec.ofInt (kbits .u8) 127).toNat : Nat) : Int) = ((p2 % 128 : Nat) : Int) := by rw [and127_u8 (by omega)];exact IntWalk.u8_in _ (by omega)
  have m2 : IntKind.u8.wrap (((BitVec.ofInt (kbits .u8) (p2 : Int) &&& BitVec.ofInt (kbits .u8) 128).toNat : Nat) : Int) = 128 := by rw [and128_hi (by omega) (by omega)];rfl
  have c2 : IntKind.u32.wrap ((p2 % 128 : Nat) : Int) = ((p2 % 128 : Nat) : Int) := u32_wrap (by omega)
  have s2 : IntKind.u32.wrap (((p2 % 128 : Nat) : Int) * 2 ^ (min 14 (kbits .u32))) = (((p2 % 128) * 2 ^ 14 : Nat) : Int) := by
    rw [show (2 : Int) ^ (min 14 (kbits .u32)) = 16384 from rfl,show (2 : Nat) ^ 14 = 16384 from rfl,u32_wrap (by omega)];omega
  have hA2 : a1 < 2 ^ 14 := by omega
  have o2 : (BitVec.ofInt (kbits .u32) ((a1 : Nat) : Int) ||| BitVec.ofInt (kbits .u32) (((p2 % 128) * 2 ^ 14 : Nat) : Int)).toNat = (p2 % 128) * 2 ^ 14 + a1 := or_shift (bits := 32) hA2 (by omega)
  obtain ⟨a2,ha2⟩ : ∃ a,a = (p2 % 128) * 2 ^ 14 + a1 := ⟨_,rfl⟩
  rw [← ha2] at o2
  have w2 : IntKind.u32.wrap ((a2 : Nat) : Int) = ((a2 : Nat) : Int) := u32_wrap (by omega)
  have k3 : IntKind.u8.wrap (((BitVec.ofInt (kbits .u8) (p3 : Int) &&& BitVec.ofInt (kbits .u8) 127).toNat : Nat) : Int) = ((p3 % 128 : Nat) : Int) := by rw [and127_u8 (by omega)];exact IntWalk.u8_in _ (by omega)
  have m3 : IntKind.u8.wrap (((BitVec.ofInt (kbits .u8) (p3 : Int) &&& BitVec.ofInt (kbits .u8) 128).toNat : Nat) : Int) = 128 := by rw [and128_hi (by omega) (by omega)];rfl
  have c3 : IntKind.u32.wrap ((p3 % 128 : Nat) : Int) = ((p3 % 128 : Nat) : Int) := u32_wrap (by omega)
  have s3 : IntKind.u32.wrap (((p3 % 128 : Nat) : Int) * 2 ^ (min 21 (kbits .u32))) = (((p3 % 128) * 2 ^ 21 : Nat) : Int) := by
    rw [show (2 : Int) ^ (min 21 (kbits .u32)) = 2097152 from rfl,show (2 : Nat) ^ 21 = 2097152 from rfl,u32_wrap (by omega)];omega
  have hA3 : a2 < 2 ^ 21 := by omega
  have o3 : (BitVec.ofInt (kbits .u32) ((a2 : Nat) : Int) ||| BitVec.ofInt (kbits .u32) (((p3 % 128) * 2 ^ 21 : Nat) : Int)).toNat = (p3 % 128) * 2 ^ 21 + a2 := or_shift (bits := 32) hA3 (by omega)
  obtain ⟨a3,ha3⟩ : ∃ a,a = (p3 % 128) * 2 ^ 21 + a2 := ⟨_,rfl⟩
  rw [← ha3] at o3
  have w3 : IntKind.u32.wrap ((a3 : Nat) : Int) = ((a3 : Nat) : Int) := u32_wrap (by omega)
  have c4 : IntKind.u32.wrap (p4 : Int) = (p4 : Int) := u32_wrap (by omega)
  refine fn_of_W Tryd.func289 rfl Tryd.results289 Tryd.ntmps289 rfl ?_
  repeat ((first | refine qA rfl ?_|refine qB ?_|refine qC rfl ?_|refine qD ?_|refine qE ?_|refine qF ?_|refine qG ?_|refine qH ?_);try simp (maxSteps:=1000000)(disch:=(first|omega|(simp only [qI,qJ,qK]<;>omega)|exact qL _)) only [go_sem,↓reduceIte,n0,reduceCtorEq,n1,n2,n3,n4,n5,i0,i1,i2,i3,i4,i5,i6,i7])
  refine W.scope 0 (fun _ _ => False) (fun _ _ => 0) rfl ?_ (fun _ _ h => h.elim)
  repeat ((first | refine qA rfl ?_|refine qB ?_|refine qC rfl ?_|refine qD ?_|refine qE ?_|refine qF ?_|refine qG ?_|refine qH ?_ | refine W.goto ?_ | refine W.label ?_);try simp (maxSteps:=1000000)(disch:=(first|omega|(simp only [qI,qJ,qK]<;>omega)|exact qL _)) only [go_sem,↓reduceIte,n0,reduceCtorEq,n1,n2,n3,n4,n5,i0,i1,i2,i3,i4,i5,i6,i7,jumpQ_ret,jumpQ_normal,jumpQ_goto,q0,q1,q2,q3,q4,hx,k0,m0,c0,k1,m1,c1,s1,o1,w1,k2,m2,c2,s2,o2,w2,k3,m3,c3,s3,o3,w3,c4])

theorem KUvarint_fn {ok : Blocks} (v : Value) (s : List UInt8) (w : World) (h : BytesV ok w v s) :
    Fn Tryd.prog 289 #[v] w fun r w' => w' = w ∧ (match uvD 4 s with | some x => r = .tuple #[.int .u32 (x.1 : Nat),.int .i64 ((s.length - x.2.length : Nat) : Int)] ∧ x.1 < 4294967296 ∧ x.2.length < s.length ∧ s.drop (s.length - x.2.length) = x.2 | none => ∃ k : Int,k ≤ 0 ∧ r = .tuple #[.int .u32 0,.int .i64 k]) := by
  cases s with
  | nil =>
    have hu : uvD 4 ([]) = none := by simp [uvD]
    rw [hu]
    refine (Uv_out0 v  w h ).mono ?_
    rintro _ _ ⟨rfl,rfl⟩
    exact ⟨rfl,0,by decide,rfl⟩
  | cons b0 s =>
    by_cases gl : b0.toNat < 128
    ·
      have hu : uvD 4 (b0 :: s) = some (b0.toNat,s) := by simp [uvD,gl]
      rw [hu]
      refine (Uv_stop0 v b0 s w h gl).mono ?_
      rintro _ _ ⟨rfl,rfl⟩
      have hl : (b0 :: s).length - s.length = 1 := by simp only [List.length_cons];omega
      exact ⟨rfl,by rw [hl];rfl,uvD_lt hu,uvD_some hu⟩
    · have g0 := gl
      clear gl
      cases s with
      | nil =>
        have hu : uvD 4 ([b0]) = none := by simp [uvD,g0]
        rw [hu]
        refine (Uv_out1 v b0 w h g0).mono ?_
        rintro _ _ ⟨rfl,rfl⟩
        exact ⟨rfl,0,by decide,rfl⟩
      | cons b1 s =>
        by_cases gl : b1.toNat < 128
        ·
          have hu : uvD 4 (b0 :: b1 :: s) = some ((b0.toNat % 128 + 128 * b1.toNat),s) := by simp [uvD,g0,gl]
          rw [hu]
          refine (Uv_stop1 v b0 b1 s w h g0 gl).mono ?_
          rintro _ _ ⟨rfl,rfl⟩
          have hl : (b0 :: b1 :: s).length - s.length = 2 := by simp only [List.length_cons];omega
          exact ⟨rfl,by rw [hl];rfl,uvD_lt hu,uvD_some hu⟩
        · have g1 := gl
          clear gl
          cases s with
          | nil =>
            have hu : uvD 4 ([b0,b1]) = none := by simp [uvD,g0,g1]
            rw [hu]
            refine (Uv_out2 v b0 b1 w h g0 g1).mono ?_
            rintro _ _ ⟨rfl,rfl⟩
            exact ⟨rfl,0,by decide,rfl⟩
          | cons b2 s =>
            by_cases gl : b2.toNat < 128
            ·
              have hu : uvD 4 (b0 :: b1 :: b2 :: s) = some ((b0.toNat % 128 + 128 * (b1.toNat % 128 + 128 * b2.toNat)),s) := by simp [uvD,g0,g1,gl]
              rw [hu]
              refine (Uv_stop2 v b0 b1 b2 s w h g0 g1 gl).mono ?_
              rintro _ _ ⟨rfl,rfl⟩
              have hl : (b0 :: b1 :: b2 :: s).length - s.length = 3 := by simp only [List.length_cons];omega
              exact ⟨rfl,by rw [hl];rfl,uvD_lt hu,uvD_some hu⟩
            · have g2 := gl
              clear gl
              cases s with
              | nil =>
                have hu : uvD 4 ([b0,b1,b2]) = none := by simp [uvD,g0,g1,g2]
                rw [hu]
                refine (Uv_out3 v b0 b1 b2 w h g0 g1 g2).mono ?_
                rintro _ _ ⟨rfl,rfl⟩
                exact ⟨rfl,0,by decide,rfl⟩
              | cons b3 s =>
                by_cases gl : b3.toNat < 128
                ·
                  have hu : uvD 4 (b0 :: b1 :: b2 :: b3 :: s) = some ((b0.toNat % 128 + 128 * (b1.toNat % 128 + 128 * (b2.toNat % 128 + 128 * b3.toNat))),s) := by simp [uvD,g0,g1,g2,gl]
                  rw [hu]
                  refine (Uv_stop3 v b0 b1 b2 b3 s w h g0 g1 g2 gl).mono ?_
                  rintro _ _ ⟨rfl,rfl⟩
                  have hl : (b0 :: b1 :: b2 :: b3 :: s).length - s.length = 4 := by simp only [List.length_cons];omega
                  exact ⟨rfl,by rw [hl];rfl,uvD_lt hu,uvD_some hu⟩
                · have g3 := gl
                  clear gl
                  cases s with
                  | nil =>
                    have hu : uvD 4 ([b0,b1,b2,b3]) = none := by simp [uvD,g0,g1,g2,g3]
                    rw [hu]
                    refine (Uv_out4 v b0 b1 b2 b3 w h g0 g1 g2 g3).mono ?_
                    rintro _ _ ⟨rfl,rfl⟩
                    exact ⟨rfl,0,by decide,rfl⟩
                  | cons b4 s =>
                    by_cases gl : b4.toNat ≤ 15
                    ·
                      have hu : uvD 4 (b0 :: b1 :: b2 :: b3 :: b4 :: s) = some ((b0.toNat % 128 + 128 * (b1.toNat % 128 + 128 * (b2.toNat % 128 + 128 * (b3.toNat % 128 + 128 * b4.toNat)))),s) := by simp [uvD,g0,g1,g2,g3,gl]
                      rw [hu]
                      refine (Uv_stop4 v b0 b1 b2 b3 b4 s w h g0 g1 g2 g3 gl).mono ?_
                      rintro _ _ ⟨rfl,rfl⟩
                      have hl : (b0 :: b1 :: b2 :: b3 :: b4 :: s).length - s.length = 5 := by simp only [List.length_cons];omega
                      exact ⟨rfl,by rw [hl];rfl,uvD_lt hu,uvD_some hu⟩
                    ·
                      have hu : uvD 4 (b0 :: b1 :: b2 :: b3 :: b4 :: s) = none := by simp [uvD,g0,g1,g2,g3,gl]
                      rw [hu]
                      refine (Uv_over v b0 b1 b2 b3 b4 s w h g0 g1 g2 g3 gl).mono ?_
                      rintro _ _ ⟨rfl,rfl⟩
                      exact ⟨rfl,-5,by decide,rfl⟩
end Ms

namespace Ms
open Go.World renaming size_alloc → qI
open Ms renaming size_wr → qJ,size_drew → qK,not_noB → qL
open W renaming seqR → qA,seq → qB,regR → qC,condK → qD,block → qE,skip → qF,ret → qG,exit → qH
open Nat renaming reduceEqDiff → n0,reduceAdd → n1,reduceMul → n2,reduceSub → n3,reduceLT → n4,reduceLeDiff → n5
open Int renaming reduceEq → i0,reduceLT → i1,reduceLE → i2,reduceNeg → i3,reduceAdd → i4,reduceSub → i5,reduceMul → i6,reduceToNat → i7
set_option maxRecDepth 8000
open Go Go.Proofs
attribute [local congr] W_congr WPsq_congr WPp_congr optK_congr addrK_congr intK_congr boolK_congr sliceK_congr tupleK_congr funcK_congr Fn_congr rawK_congr takeK_congr stepK_congr convK_congr aggK_congr

abbrev RT : TypeId := 224
def GloBE (w : World) : Prop := ∃ x,blk w 0 = some x
theorem GloBE.upd {w w' : World} {rb : Nat} (h : GloBE w) (u : Upd (fun b => b = rb) w w') (hr : ¬ 0 = rb) : GloBE w' := by
  obtain ⟨x,h⟩ := h;exact ⟨x,u.blk_some h hr⟩
theorem GloBE.ext {w w' : World} (h : GloBE w) (u : Ext w w') : GloBE w' := by
  obtain ⟨x,h⟩ := h;exact ⟨x,u.blk_some h id⟩

theorem Int16_fn {ok : Blocks} {rb : Nat} {st : St} (w : World) (h : Rdr RT ok w rb st) (hr : ¬ ok rb) (hg : GloBE w) (hrg : ¬ 0 = rb) :
    Fn Tryd.prog 197 #[.pointer (some ⟨rb,0,none⟩)] w (RdQ RT ok rb w (.int .i16 (rdInt .i16 2 st).1) (rdInt .i16 2 st).2) := by
  obtain ⟨v,hb,hB,hn⟩ := h.ex
  obtain ⟨a,c,rfl,hc⟩ := hB.shape
  have hbl := blk_lt hb
  by_cases hf : stLen st < 2
  · have hf2 : (st.getD []).length < 2 := hf
    rw [rdInt,rdN_few hf]
    refine fn_of_W Tryd.func197 rfl Tryd.results197 Tryd.ntmps197 rfl ?_
    repeat ((first | refine qA rfl ?_|refine qB ?_|refine qC rfl ?_|refine qD ?_|refine qE ?_|refine qF ?_|refine qG ?_|refine qH ?_);try simp (maxSteps:=1000000)(disch:=(first|omega|(simp only [qI,qJ,qK]<;>omega)|exact qL _)) only [go_sem,↓reduceIte,n0,reduceCtorEq,n1,n2,n3,n4,n5,i0,i1,i2,i3,i4,i5,i6,i7,hb])
    exact RdQ.bad hb
  · obtain ⟨s,rfl,hs⟩ := st_some hf
    simp only [Option.getD_some,isNone_some_st] at hb hB hc
    rw [rdInt,rdN_some hs]
    simp only [Option.getD_some]
    obtain ⟨xg,hg⟩ := hg
    have hgl := blk_lt hg
    have hz : xg.1.extract 0 0 = #[] := by simp
    refine fn_of_W Tryd.func197 rfl Tryd.results197 Tryd.ntmps197 rfl ?_
    repeat ((first | refine qA rfl ?_|refine qB ?_|refine qC rfl ?_|refine qD ?_|refine qE ?_|refine qF ?_|refine qG ?_|refine qH ?_);try simp (maxSteps:=1000000)(disch:=(first|omega|(simp only [qI,qJ,qK]<;>omega)|exact qL _)) only [go_sem,↓reduceIte,n0,reduceCtorEq,n1,n2,n3,n4,n5,i0,i1,i2,i3,i4,i5,i6,i7,hb,hg,hz])
    refine W.drawR (.take 0 (.take 1 (.take 2 (.take 3 (.take 4 (.only 5 (.take 6 (.only 7 .done)))))))) NoB mixed (by kernel_rfl) ?_
    simp (maxSteps:=1000000)(disch:=(first|omega|(simp only [qI,qJ,qK]<;>omega)|exact qL _)) only [go_sem,↓reduceIte,n0,reduceCtorEq,n1,n2,n3,n4,n5,i0,i1,i2,i3,i4,i5,i6,i7,hb,hg,hz]
    have hEd : Ext w w.drew := (Upd.refl _ _).drew
    refine (BE16_fn (ok := ok) _ s w.drew (hB.keep (hEd.keeps _)) hs).mono ?_
    rintro r5 w1 ⟨rfl,hE1⟩
    have hE := hEd.trans hE1
    have hb1 := hE.blk_some hb id
    refine ⟨hE1,?_⟩
    simp (maxSteps:=1000000)(disch:=(first|omega|(simp only [qI,qJ,qK]<;>omega)|exact qL _)) only [go_sem,↓reduceIte,n0,reduceCtorEq,n1,n2,n3,n4,n5,i0,i1,i2,i3,i4,i5,i6,i7,hb1]
    refine ⟨hE1,?_⟩
    repeat ((first | refine qA rfl ?_|refine qB ?_|refine qC rfl ?_|refine qD ?_|refine qE ?_|refine qF ?_|refine qG ?_|refine qH ?_);try simp (maxSteps:=1000000)(disch:=(first|omega|(simp only [qI,qJ,qK]<;>omega)|exact qL _)) only [go_sem,↓reduceIte,n0,reduceCtorEq,n1,n2,n3,n4,n5,i0,i1,i2,i3,i4,i5,i6,i7,hb1])
    exact RdQ.good hE hb hB hr hs (by omega)

theorem Uint16_fn {ok : Blocks} {rb : Nat} {st : St} (w : World) (h : Rdr RT ok w rb st) (hr : ¬ ok rb) (hg : GloBE w) (hrg : ¬ 0 = rb) :
    Fn Tryd.prog 259 #[.pointer (some ⟨rb,0,none⟩)] w (RdQ RT ok rb w (.int .u16 (rdInt .u16 2 st).1) (rdInt .u16 2 st).2) := by
  obtain ⟨v,hb,hB,hn⟩ := h.ex
  obtain ⟨a,c,rfl,hc⟩ := hB.shape
  have hbl := blk_lt hb
  by_cases hf : stLen st < 2
  · have hf2 : (st.getD []).length < 2 := hf
    rw [rdInt,rdN_few hf]
    refine fn_of_W Tryd.func259 rfl Tryd.results259 Tryd.ntmps259 rfl ?_
    repeat ((first | refine qA rfl ?_|refine qB ?_|refine qC rfl ?_|refine qD ?_|refine qE ?_|refine qF ?_|refine qG ?_|refine qH ?_);try simp (maxSteps:=1000000)(disch:=(first|omega|(simp only [qI,qJ,qK]<;>omega)|exact qL _)) only [go_sem,↓reduceIte,n0,reduceCtorEq,n1,n2,n3,n4,n5,i0,i1,i2,i3,i4,i5,i6,i7,hb])
    exact RdQ.bad hb
  · obtain ⟨s,rfl,hs⟩ := st_some hf
    simp only [Option.getD_some,isNone_some_st] at hb hB hc
    rw [rdInt,rdN_some hs]
    simp only [Option.getD_some]
    obtain ⟨xg,hg⟩ := hg
    have hgl := blk_lt hg
    have hz : xg.1.extract 0 0 = #[] := by simp
    refine fn_of_W Tryd.func259 rfl Tryd.results259 Tryd.ntmps259 rfl ?_
    repeat ((first | refine qA rfl ?_|refine qB ?_|refine qC rfl ?_|refine qD ?_|refine qE ?_|refine qF ?_|refine qG ?_|refine qH ?_);try simp (maxSteps:=1000000)(disch:=(first|omega|(simp only [qI,qJ,qK]<;>omega)|exact qL _)) only [go_sem,↓reduceIte,n0,reduceCtorEq,n1,n2,n3,n4,n5,i0,i1,i2,i3,i4,i5,i6,i7,hb,hg,hz])
    refine W.drawR (.take 0 (.take 1 (.take 2 (.take 3 (.take 4 (.only 5 (.only 6 .done))))))) NoB mixed (by kernel_rfl) ?_
    simp (maxSteps:=1000000)(disch:=(first|omega|(simp only [qI,qJ,qK]<;>omega)|exact qL _)) only [go_sem,↓reduceIte,n0,reduceCtorEq,n1,n2,n3,n4,n5,i0,i1,i2,i3,i4,i5,i6,i7,hb,hg,hz]
    have hEd : Ext w w.drew := (Upd.refl _ _).drew
    refine (BE16_fn (ok := ok) _ s w.drew (hB.keep (hEd.keeps _)) hs).mono ?_
    rintro r5 w1 ⟨rfl,hE1⟩
    have hE := hEd.trans hE1
    have hb1 := hE.blk_some hb id
    refine ⟨hE1,?_⟩
    have hw : IntKind.u16.wrap ((beN (s.take 2) : Nat) : Int) = (beN (s.take 2) : Nat) := by
      have := beN_take_lt s 2
      unfold IntKind.wrap;simp [IntKind.bits,IntKind.signed];omega
    rw [hw]
    refine ⟨hE1,?_⟩
    repeat ((first | refine qA rfl ?_|refine qB ?_|refine qC rfl ?_|refine qD ?_|refine qE ?_|refine qF ?_|refine qG ?_|refine qH ?_);try simp (maxSteps:=1000000)(disch:=(first|omega|(simp only [qI,qJ,qK]<;>omega)|exact qL _)) only [go_sem,↓reduceIte,n0,reduceCtorEq,n1,n2,n3,n4,n5,i0,i1,i2,i3,i4,i5,i6,i7,hb1])
    exact RdQ.good hE hb hB hr hs (by omega)

theorem Int32_fn {ok : Blocks} {rb : Nat} {st : St} (w : World) (h : Rdr RT ok w rb st) (hr : ¬ ok rb) (hg : GloBE w) (hrg : ¬ 0 = rb) :
    Fn Tryd.prog 199 #[.pointer (some ⟨rb,0,none⟩)] w (RdQ RT ok rb w (.int .i32 (rdInt .i32 4 st).1) (rdInt .i32 4 st).2) := by
  obtain ⟨v,hb,hB,hn⟩ := h.ex
  obtain ⟨a,c,rfl,hc⟩ := hB.shape
  have hbl := blk_lt hb
  by_cases hf : stLen st < 4
  · have hf2 : (st.getD []).length < 4 := hf
    rw [rdInt,rdN_few hf]
    refine fn_of_W Tryd.func199 rfl Tryd.results199 Tryd.ntmps199 rfl ?_
    repeat ((first | refine qA rfl ?_|refine qB ?_|refine qC rfl ?_|refine qD ?_|refine qE ?_|refine qF ?_|refine qG ?_|refine qH ?_);try simp (maxSteps:=1000000)(disch:=(first|omega|(simp only [qI,qJ,qK]<;>omega)|exact qL _)) only [go_sem,↓reduceIte,n0,reduceCtorEq,n1,n2,n3,n4,n5,i0,i1,i2,i3,i4,i5,i6,i7,hb])
    exact RdQ.bad hb
  · obtain ⟨s,rfl,hs⟩ := st_some hf
    simp only [Option.getD_some,isNone_some_st] at hb hB hc
    rw [rdInt,rdN_some hs]
    simp only [Option.getD_some]
    obtain ⟨xg,hg⟩ := hg
    have hgl := blk_lt hg
    have hz : xg.1.extract 0 0 = #[] := by simp
    refine fn_of_W Tryd.func199 rfl Tryd.results199 Tryd.ntmps199 rfl ?_
    repeat ((first | refine qA rfl ?_|refine qB ?_|refine qC rfl ?_|refine qD ?_|refine qE ?_|refine qF ?_|refine qG ?_|refine qH ?_);try simp (maxSteps:=1000000)(disch:=(first|omega|(simp only [qI,qJ,qK]<;>omega)|exact qL _)) only [go_sem,↓reduceIte,n0,reduceCtorEq,n1,n2,n3,n4,n5,i0,i1,i2,i3,i4,i5,i6,i7,hb,hg,hz])
    refine W.drawR (.take 0 (.take 1 (.take 2 (.take 3 (.take 4 (.only 5 (.take 6 (.only 7 .done)))))))) NoB mixed (by kernel_rfl) ?_
    simp (maxSteps:=1000000)(disch:=(first|omega|(simp only [qI,qJ,qK]<;>omega)|exact qL _)) only [go_sem,↓reduceIte,n0,reduceCtorEq,n1,n2,n3,n4,n5,i0,i1,i2,i3,i4,i5,i6,i7,hb,hg,hz]
    have hEd : Ext w w.drew := (Upd.refl _ _).drew
    refine (BE32_fn (ok := ok) _ s w.drew (hB.keep (hEd.keeps _)) hs).mono ?_
    rintro r5 w1 ⟨rfl,hE1⟩
    have hE := hEd.trans hE1
    have hb1 := hE.blk_some hb id
    refine ⟨hE1,?_⟩
    simp (maxSteps:=1000000)(disch:=(first|omega|(simp only [qI,qJ,qK]<;>omega)|exact qL _)) only [go_sem,↓reduceIte,n0,reduceCtorEq,n1,n2,n3,n4,n5,i0,i1,i2,i3,i4,i5,i6,i7,hb1]
    refine ⟨hE1,?_⟩
    repeat ((first | refine qA rfl ?_|refine qB ?_|refine qC rfl ?_|refine qD ?_|refine qE ?_|refine qF ?_|refine qG ?_|refine qH ?_);try simp (maxSteps:=1000000)(disch:=(first|omega|(simp only [qI,qJ,qK]<;>omega)|exact qL _)) only [go_sem,↓reduceIte,n0,reduceCtorEq,n1,n2,n3,n4,n5,i0,i1,i2,i3,i4,i5,i6,i7,hb1])
    exact RdQ.good hE hb hB hr hs (by omega)

theorem readUint64_fn {ok : Blocks} {rb : Nat} {st : St} (w : World) (h : Rdr RT ok w rb st) (hr : ¬ ok rb) (hg : GloBE w) (hrg : ¬ 0 = rb) :
    Fn Tryd.prog 286 #[.pointer (some ⟨rb,0,none⟩)] w (RdQ RT ok rb w (.int .u64 (rdInt .u64 8 st).1) (rdInt .u64 8 st).2) := by
  obtain ⟨v,hb,hB,hn⟩ := h.ex
  obtain ⟨a,c,rfl,hc⟩ := hB.shape
  have hbl := blk_lt hb
  by_cases hf : stLen st < 8
  · have hf2 : (st.getD []).length < 8 := hf
    rw [rdInt,rdN_few hf]
    refine fn_of_W Tryd.func286 rfl Tryd.results286 Tryd.ntmps286 rfl ?_
    repeat ((first | refine qA rfl ?_|refine qB ?_|refine qC rfl ?_|refine qD ?_|refine qE ?_|refine qF ?_|refine qG ?_|refine qH ?_);try simp (maxSteps:=1000000)(disch:=(first|omega|(simp only [qI,qJ,qK]<;>omega)|exact qL _)) only [go_sem,↓reduceIte,n0,reduceCtorEq,n1,n2,n3,n4,n5,i0,i1,i2,i3,i4,i5,i6,i7,hb])
    exact RdQ.bad hb
  · obtain ⟨s,rfl,hs⟩ := st_some hf
    simp only [Option.getD_some,isNone_some_st] at hb hB hc
    rw [rdInt,rdN_some hs]
    simp only [Option.getD_some]
    obtain ⟨xg,hg⟩ := hg
    have hgl := blk_lt hg
    have hz : xg.1.extract 0 0 = #[] := by simp
    refine fn_of_W Tryd.func286 rfl Tryd.results286 Tryd.ntmps286 rfl ?_
    repeat ((first | refine qA rfl ?_|refine qB ?_|refine qC rfl ?_|refine qD ?_|refine qE ?_|refine qF ?_|refine qG ?_|refine qH ?_);try simp (maxSteps:=1000000)(disch:=(first|omega|(simp only [qI,qJ,qK]<;>omega)|exact qL _)) only [go_sem,↓reduceIte,n0,reduceCtorEq,n1,n2,n3,n4,n5,i0,i1,i2,i3,i4,i5,i6,i7,hb,hg,hz])
    refine W.drawR (.take 0 (.take 1 (.take 2 (.take 3 (.take 4 (.only 5 (.only 6 .done))))))) NoB mixed (by kernel_rfl) ?_
    simp (maxSteps:=1000000)(disch:=(first|omega|(simp only [qI,qJ,qK]<;>omega)|exact qL _)) only [go_sem,↓reduceIte,n0,reduceCtorEq,n1,n2,n3,n4,n5,i0,i1,i2,i3,i4,i5,i6,i7,hb,hg,hz]
    have hEd : Ext w w.drew := (Upd.refl _ _).drew
    refine (BE64_fn (ok := ok) _ s w.drew (hB.keep (hEd.keeps _)) hs).mono ?_
    rintro r5 w1 ⟨rfl,hE1⟩
    have hE := hEd.trans hE1
    have hb1 := hE.blk_some hb id
    refine ⟨hE1,?_⟩
    have hw : IntKind.u64.wrap ((beN (s.take 8) : Nat) : Int) = (beN (s.take 8) : Nat) := by
      have := beN_take_lt s 8
      unfold IntKind.wrap;simp [IntKind.bits,IntKind.signed];omega
    rw [hw]
    refine ⟨hE1,?_⟩
    repeat ((first | refine qA rfl ?_|refine qB ?_|refine qC rfl ?_|refine qD ?_|refine qE ?_|refine qF ?_|refine qG ?_|refine qH ?_);try simp (maxSteps:=1000000)(disch:=(first|omega|(simp only [qI,qJ,qK]<;>omega)|exact qL _)) only [go_sem,↓reduceIte,n0,reduceCtorEq,n1,n2,n3,n4,n5,i0,i1,i2,i3,i4,i5,i6,i7,hb1])
    exact RdQ.good hE hb hB hr hs (by omega)

theorem Int64_fn {ok : Blocks} {rb : Nat} {st : St} (w : World) (h : Rdr RT ok w rb st) (hr : ¬ ok rb) (hg : GloBE w) (hrg : ¬ 0 = rb) :
    Fn Tryd.prog 198 #[.pointer (some ⟨rb,0,none⟩)] w (RdQ RT ok rb w (.int .i64 (rdInt .i64 8 st).1) (rdInt .i64 8 st).2) := by
  refine fn_of_W Tryd.func198 rfl Tryd.results198 Tryd.ntmps198 rfl ?_
  repeat ((first | refine qA rfl ?_|refine qB ?_|refine qC rfl ?_|refine qD ?_|refine qE ?_|refine qF ?_|refine qG ?_|refine qH ?_);try simp (maxSteps:=1000000)(disch:=(first|omega|(simp only [qI,qJ,qK]<;>omega)|exact qL _)) only [go_sem,↓reduceIte,n0,reduceCtorEq,n1,n2,n3,n4,n5,i0,i1,i2,i3,i4,i5,i6,i7])
  refine (readUint64_fn w h hr hg hrg).mono ?_
  rintro _ w1 ⟨rfl,h1,hu⟩
  have hw : IntKind.i64.wrap (rdInt .u64 8 st).1 = (rdInt .i64 8 st).1 := by
    unfold rdInt IntKind.wrap;simp [IntKind.bits,IntKind.signed]
  repeat ((first | refine qA rfl ?_|refine qB ?_|refine qC rfl ?_|refine qD ?_|refine qE ?_|refine qF ?_|refine qG ?_|refine qH ?_);try simp (maxSteps:=1000000)(disch:=(first|omega|(simp only [qI,qJ,qK]<;>omega)|exact qL _)) only [go_sem,↓reduceIte,n0,reduceCtorEq,n1,n2,n3,n4,n5,i0,i1,i2,i3,i4,i5,i6,i7,hw])
  exact ⟨rfl,h1,hu⟩

theorem Int8_fn {ok : Blocks} {rb : Nat} {st : St} (w : World) (h : Rdr RT ok w rb st) (hr : ¬ ok rb) :
    Fn Tryd.prog 244 #[.pointer (some ⟨rb,0,none⟩)] w (RdQ RT ok rb w (.int .i8 (rdInt .i8 1 st).1) (rdInt .i8 1 st).2) := by
  obtain ⟨v,hb,hB,hn⟩ := h.ex
  obtain ⟨a,c,rfl,hc⟩ := hB.shape
  have hbl := blk_lt hb
  by_cases hf : stLen st < 1
  · have hf2 : (st.getD []).length < 1 := hf
    rw [rdInt,rdN_few hf]
    refine fn_of_W Tryd.func244 rfl Tryd.results244 Tryd.ntmps244 rfl ?_
    repeat ((first | refine qA rfl ?_|refine qB ?_|refine qC rfl ?_|refine qD ?_|refine qE ?_|refine qF ?_|refine qG ?_|refine qH ?_);try simp (maxSteps:=1000000)(disch:=(first|omega|(simp only [qI,qJ,qK]<;>omega)|exact qL _)) only [go_sem,↓reduceIte,n0,reduceCtorEq,n1,n2,n3,n4,n5,i0,i1,i2,i3,i4,i5,i6,i7,hb])
    exact RdQ.bad hb
  · obtain ⟨s,rfl,hs⟩ := st_some hf
    simp only [Option.getD_some,isNone_some_st] at hb hB hc
    rw [rdInt,rdN_some hs]
    obtain ⟨B,o,c',x,hv,hc',hok,hx,hq⟩ := hB.cells (by intro h0;rw [h0] at hs;simp at hs)
    cases hv
    have q0 := hq 0 (by omega)
    rw [Nat.add_zero] at q0
    have hbe : beN (s.take 1) = s[0].toNat := by
      cases s with
      | nil => simp at hs
      | cons b s => simp [beN]
    simp only [hbe]
    have hlt := blk_lt hx
    have hp := u8_lt s[0]
    generalize s[0].toNat = p at *
    refine fn_of_W Tryd.func244 rfl Tryd.results244 Tryd.ntmps244 rfl ?_
    repeat ((first | refine qA rfl ?_|refine qB ?_|refine qC rfl ?_|refine qD ?_|refine qE ?_|refine qF ?_|refine qG ?_|refine qH ?_);try simp (maxSteps:=1000000)(disch:=(first|omega|(simp only [qI,qJ,qK]<;>omega)|exact qL _)) only [go_sem,↓reduceIte,n0,reduceCtorEq,n1,n2,n3,n4,n5,i0,i1,i2,i3,i4,i5,i6,i7,hb,hx,q0])
    exact RdQ.good (Upd.refl _ _) hb hB hr hs (by omega)

theorem Bool_fn {ok : Blocks} {rb : Nat} {st : St} (w : World) (h : Rdr RT ok w rb st) (hr : ¬ ok rb) :
    Fn Tryd.prog 245 #[.pointer (some ⟨rb,0,none⟩)] w (RdQ RT ok rb w (.bool (!decide (beN (rdN 1 st).1 = 0))) (rdN 1 st).2) := by
  obtain ⟨v,hb,hB,hn⟩ := h.ex
  obtain ⟨a,c,rfl,hc⟩ := hB.shape
  have hbl := blk_lt hb
  by_cases hf : stLen st < 1
  · have hf2 : (st.getD []).length < 1 := hf
    rw [rdN_few hf]
    refine fn_of_W Tryd.func245 rfl Tryd.results245 Tryd.ntmps245 rfl ?_
    repeat ((first | refine qA rfl ?_|refine qB ?_|refine qC rfl ?_|refine qD ?_|refine qE ?_|refine qF ?_|refine qG ?_|refine qH ?_);try simp (maxSteps:=1000000)(disch:=(first|omega|(simp only [qI,qJ,qK]<;>omega)|exact qL _)) only [go_sem,↓reduceIte,n0,reduceCtorEq,n1,n2,n3,n4,n5,i0,i1,i2,i3,i4,i5,i6,i7,hb])
    exact RdQ.bad hb
  · obtain ⟨s,rfl,hs⟩ := st_some hf
    simp only [Option.getD_some,isNone_some_st] at hb hB hc
    rw [rdN_some hs]
    obtain ⟨B,o,c',x,hv,hc',hok,hx,hq⟩ := hB.cells (by intro h0;rw [h0] at hs;simp at hs)
    cases hv
    have q0 := hq 0 (by omega)
    rw [Nat.add_zero] at q0
    have hbe : beN (s.take 1) = s[0].toNat := by
      cases s with
      | nil => simp at hs
      | cons b s => simp [beN]
    simp only [hbe]
    have hlt := blk_lt hx
    have hp := u8_lt s[0]
    generalize s[0].toNat = p at *
    by_cases hp0 : p = 0
    · have hp1 : (p : Int) = 0 := by omega
      refine fn_of_W Tryd.func245 rfl Tryd.results245 Tryd.ntmps245 rfl ?_
      repeat ((first | refine qA rfl ?_|refine qB ?_|refine qC rfl ?_|refine qD ?_|refine qE ?_|refine qF ?_|refine qG ?_|refine qH ?_);try simp (maxSteps:=1000000)(disch:=(first|omega|(simp only [qI,qJ,qK]<;>omega)|exact qL _)) only [go_sem,↓reduceIte,n0,reduceCtorEq,n1,n2,n3,n4,n5,i0,i1,i2,i3,i4,i5,i6,i7,hb,hx,q0,hp1])
      have := RdQ.good (val := .bool false) (Upd.refl _ _ : Ext w w) hb hB hr hs (by omega)
      simpa [hp0] using this
    · have hp1 : ¬ (p : Int) = 0 := by omega
      refine fn_of_W Tryd.func245 rfl Tryd.results245 Tryd.ntmps245 rfl ?_
      repeat ((first | refine qA rfl ?_|refine qB ?_|refine qC rfl ?_|refine qD ?_|refine qE ?_|refine qF ?_|refine qG ?_|refine qH ?_);try simp (maxSteps:=1000000)(disch:=(first|omega|(simp only [qI,qJ,qK]<;>omega)|exact qL _)) only [go_sem,↓reduceIte,n0,reduceCtorEq,n1,n2,n3,n4,n5,i0,i1,i2,i3,i4,i5,i6,i7,hb,hx,q0,hp1])
      have := RdQ.good (val := .bool true) (Upd.refl _ _ : Ext w w) hb hB hr hs (by omega)
      simpa [hp0] using this

theorem Span_fn {ok : Blocks} {rb : Nat} {st : St} (w : World) (h : Rdr RT ok w rb st) (hr : ¬ ok rb) (l : Int) :
    Fn Tryd.prog 206 #[.pointer (some ⟨rb,0,none⟩),.int .i64 l] w (SpanQ RT ok rb w st (rdSpan l st).2 l (rdSpan l st).1) := by
  obtain ⟨v,hb,hB,hn⟩ := h.ex
  obtain ⟨a,c,rfl,hc⟩ := hB.shape
  have hbl := blk_lt hb
  by_cases hf : l < 0 ∨ (stLen st : Int) < l
  · rw [rdSpan_bad hf]
    by_cases hl : (stLen st : Int) < l
    · have hl2 : ((st.getD []).length : Int) < l := hl
      refine fn_of_W Tryd.func206 rfl Tryd.results206 Tryd.ntmps206 rfl ?_
      repeat ((first | refine qA rfl ?_|refine qB ?_|refine qC rfl ?_|refine qD ?_|refine qE ?_|refine qF ?_|refine qG ?_|refine qH ?_);try simp (maxSteps:=1000000)(disch:=(first|omega|(simp only [qI,qJ,qK]<;>omega)|exact qL _)) only [go_sem,↓reduceIte,n0,reduceCtorEq,n1,n2,n3,n4,n5,i0,i1,i2,i3,i4,i5,i6,i7,hb])
      exact SpanQ.bad hb
    · have hl2 : ¬ ((st.getD []).length : Int) < l := hl
      have hl3 : l < 0 := hf.resolve_right hl
      refine fn_of_W Tryd.func206 rfl Tryd.results206 Tryd.ntmps206 rfl ?_
      repeat ((first | refine qA rfl ?_|refine qB ?_|refine qC rfl ?_|refine qD ?_|refine qE ?_|refine qF ?_|refine qG ?_|refine qH ?_);try simp (maxSteps:=1000000)(disch:=(first|omega|(simp only [qI,qJ,qK]<;>omega)|exact qL _)) only [go_sem,↓reduceIte,n0,reduceCtorEq,n1,n2,n3,n4,n5,i0,i1,i2,i3,i4,i5,i6,i7,hb])
      exact SpanQ.bad hb
  · have hl1 : 0 ≤ l := by omega
    have hl2 : l ≤ ((st.getD []).length : Int) := by have : (st.getD []).length = stLen st := rfl;omega
    obtain ⟨k,rfl⟩ : ∃ k : Nat,l = k := ⟨l.toNat,by omega⟩
    have hk : k ≤ (st.getD []).length := by omega
    have hl3 : ¬ ((st.getD []).length : Int) < (k : Int) := by omega
    have hl4 : ¬ (k : Int) < 0 := by omega
    have hk2 : k ≤ c := by omega
    cases st with
    | none =>
      have := hn rfl
      cases this
      have hk0 : k = 0 := by simpa using hk
      subst hk0
      refine fn_of_W Tryd.func206 rfl Tryd.results206 Tryd.ntmps206 rfl ?_
      repeat ((first | refine qA rfl ?_|refine qB ?_|refine qC rfl ?_|refine qD ?_|refine qE ?_|refine qF ?_|refine qG ?_|refine qH ?_);try simp (maxSteps:=1000000)(disch:=(first|omega|(simp only [qI,qJ,qK]<;>omega)|exact qL _)) only [go_sem,↓reduceIte,n0,reduceCtorEq,n1,n2,n3,n4,n5,i0,i1,i2,i3,i4,i5,i6,i7,hb,Int.toNat_natCast])
      exact SpanQ.zero hb
    | some s =>
      simp only [Option.getD_some,isNone_some_st] at hb hB hc hk hl2 hl3
      rw [rdSpan_good hk]
      refine fn_of_W Tryd.func206 rfl Tryd.results206 Tryd.ntmps206 rfl ?_
      repeat ((first | refine qA rfl ?_|refine qB ?_|refine qC rfl ?_|refine qD ?_|refine qE ?_|refine qF ?_|refine qG ?_|refine qH ?_);try simp (maxSteps:=1000000)(disch:=(first|omega|(simp only [qI,qJ,qK]<;>omega)|exact qL _)) only [go_sem,↓reduceIte,n0,reduceCtorEq,n1,n2,n3,n4,n5,i0,i1,i2,i3,i4,i5,i6,i7,hb,Int.toNat_natCast,Nat.sub_zero])
      exact SpanQ.good hb hB hr hk

theorem rdUv_of {s : List UInt8} : rdUv (some s) = match uvD 4 s with | some x => (x.1,some x.2) | none => (0,none) := rfl
theorem RUvarint_fn {ok : Blocks} {rb : Nat} {st : St} (w : World) (h : Rdr RT ok w rb st) (hr : ¬ ok rb) :
    Fn Tryd.prog 204 #[.pointer (some ⟨rb,0,none⟩)] w (RdQ RT ok rb w (.int .u32 (rdUv st).1) (rdUv st).2) := by
  obtain ⟨v,hb,hB,hn⟩ := h.ex
  obtain ⟨a,c,rfl,hc⟩ := hB.shape
  have hbl := blk_lt hb
  refine fn_of_W Tryd.func204 rfl Tryd.results204 Tryd.ntmps204 rfl ?_
  repeat ((first | refine qA rfl ?_|refine qB ?_|refine qC rfl ?_|refine qD ?_|refine qE ?_|refine qF ?_|refine qG ?_|refine qH ?_);try simp (maxSteps:=1000000)(disch:=(first|omega|(simp only [qI,qJ,qK]<;>omega)|exact qL _)) only [go_sem,↓reduceIte,n0,reduceCtorEq,n1,n2,n3,n4,n5,i0,i1,i2,i3,i4,i5,i6,i7,hb])
  refine (KUvarint_fn (ok := ok) _ (st.getD []) w hB).mono ?_
  rintro r1 w1 ⟨rfl,hr1⟩
  cases hu : uvD 4 (st.getD []) with
  | none =>
    rw [hu] at hr1
    obtain ⟨k,hk,rfl⟩ := hr1
    have hst : rdUv st = (0,none) := by
      cases st with
      | none => rfl
      | some s => rw [rdUv_of];simp only [Option.getD_some] at hu;rw [hu]
    rw [hst]
    repeat ((first | refine qA rfl ?_|refine qB ?_|refine qC rfl ?_|refine qD ?_|refine qE ?_|refine qF ?_|refine qG ?_|refine qH ?_);try simp (maxSteps:=1000000)(disch:=(first|omega|(simp only [qI,qJ,qK]<;>omega)|exact qL _)) only [go_sem,↓reduceIte,n0,reduceCtorEq,n1,n2,n3,n4,n5,i0,i1,i2,i3,i4,i5,i6,i7,hb])
    exact RdQ.bad hb
  | some x =>
    rw [hu] at hr1
    obtain ⟨rfl,h3,h4a,h4b⟩ := hr1
    cases st with
    | none => simp [uvD] at hu
    | some s =>
      simp only [Option.getD_some,isNone_some_st] at hb hB hc hu h4a h4b ⊢
      rw [rdUv_of,hu]
      have h5 : ¬ ((s.length - x.2.length : Nat) : Int) ≤ 0 := by omega
      have h6 := RdQ.good (val := .int .u32 x.1) (k := s.length - x.2.length) (Upd.refl _ _ : Ext w1 w1) hb hB hr (by omega) (by omega)
      rw [h4b] at h6
      repeat ((first | refine qA rfl ?_|refine qB ?_|refine qC rfl ?_|refine qD ?_|refine qE ?_|refine qF ?_|refine qG ?_|refine qH ?_);try simp (maxSteps:=1000000)(disch:=(first|omega|(simp only [qI,qJ,qK]<;>omega)|exact qL _)) only [go_sem,↓reduceIte,n0,reduceCtorEq,n1,n2,n3,n4,n5,i0,i1,i2,i3,i4,i5,i6,i7,hb,h5,Int.toNat_natCast,List.getElem_toArray,List.getElem_cons_succ,List.getElem_cons_zero])
      exact h6

end Ms

