/- A part of the proof: see the last text. -/
import Derived.Test.YtbbhfngjfihndadDoorC04
set_option linter.unusedSimpArgs false
set_option linter.unusedVariables false
namespace Ms
open Go.World renaming size_alloc → qI
open Ms renaming size_wr → qJ,size_drew → qK,not_noB → qL
open W renaming seqR → qA,seq → qB,regR → qC,condK → qD,block → qE,skip → qF,ret → qG,exit → qH
open Nat renaming reduceEqDiff → n0,reduceAdd → n1,reduceMul → n2,reduceSub → n3,reduceLT → n4,reduceLeDiff → n5
open Int renaming reduceEq → i0,reduceLT → i1,reduceLE → i2,reduceNeg → i3,reduceAdd → i4,reduceSub → i5,reduceMul → i6,reduceToNat → i7
set_option maxRecDepth 8000
open Go Go.Proofs
attribute [local congr] W_congr WPsq_congr WPp_congr optK_congr addrK_congr intK_congr boolK_congr sliceK_congr tupleK_congr funcK_congr Fn_congr rawK_congr takeK_congr stepK_congr convK_congr aggK_congr

set_option maxHeartbeats 1000000 in
theorem Uv_out0 {ok:Blocks} (v:Value) (w:World) (h:BytesV ok w v ([]))  : Fn Tryd.prog 58 #[v] w fun r w'=>w'=w∧r = .tuple #[.int .u32 0,.int .i64 (0)]:=by
 obtain ⟨av,cv,rfl,hcv⟩:=h.shape
 refine fn_of_W Tryd.func58 rfl Tryd.results58 Tryd.ntmps58 rfl ?_
 repeat ((first|refine qA rfl ?_|apply qB|refine qC rfl ?_|apply qD|apply qE|apply qF|apply qG|apply qH);try simp (maxSteps:=1000000)(disch:=(first|omega|(simp only [qI,qJ,qK]<;>omega)|exact qL _)) only [go_sem,↓reduceIte,n0,reduceCtorEq,n1,n2,n3,n4,n5,i0,i1,i2,i3,i4,i5,i6,i7])
 refine W.scope 0 (fun ρ w'=>w'=w∧ρ 5 = .int .i64 0) (fun _ _=>0) rfl ?_ ?_
 rotate_left
 ·rintro ρ w' ⟨rfl,h5⟩
  repeat ((first|refine qA rfl ?_|apply qB|refine qC rfl ?_|apply qD|apply qE|apply qF|apply qG|apply qH|refine W.goto ?_|refine W.label ?_);try simp (maxSteps:=1000000)(disch:=(first|omega|(simp only [qI,qJ,qK]<;>omega)|exact qL _)) only [go_sem,↓reduceIte,n0,reduceCtorEq,n1,n2,n3,n4,n5,i0,i1,i2,i3,i4,i5,i6,i7,jumpQ_ret,jumpQ_normal,h5])
 repeat ((first|refine qA rfl ?_|apply qB|refine qC rfl ?_|apply qD|apply qE|apply qF|apply qG|apply qH|refine W.goto ?_|refine W.label ?_);try simp (maxSteps:=1000000)(disch:=(first|omega|(simp only [qI,qJ,qK]<;>omega)|exact qL _)) only [go_sem,↓reduceIte,n0,reduceCtorEq,n1,n2,n3,n4,n5,i0,i1,i2,i3,i4,i5,i6,i7,jumpQ_ret,jumpQ_normal,jumpQ_goto])

set_option maxHeartbeats 1000000 in
theorem Uv_out1 {ok:Blocks} (v:Value) (b0:UInt8) (w:World) (h:BytesV ok w v ([b0])) (g0:¬ b0.toNat < 128):Fn Tryd.prog 58 #[v] w fun r w'=>w'=w∧r = .tuple #[.int .u32 0,.int .i64 (0)]:=by
 obtain ⟨B,o,c,x,rfl,hc,hok,hx,hq⟩:=h.cells (by simp)
 have q0:x.1[o]? = some (.int .u8 b0.toNat):=hq 0 (by simp)
 clear hq h
 have hp0:=u8_lt b0
 generalize b0.toNat=p0 at *
 have hlt:=blk_lt hx
 have k0:IntKind.u8.wrap (((BitVec.ofInt (kbits .u8) (p0:Int) &&& BitVec.ofInt (kbits .u8) 127).toNat:Nat):Int)=((p0 % 128:Nat):Int):=by rw [and127_u8 (by omega)];exact IntWalk.u8_in _ (by omega)
 have m0:IntKind.u8.wrap (((BitVec.ofInt (kbits .u8) (p0:Int) &&& BitVec.ofInt (kbits .u8) 128).toNat:Nat):Int)=128:=by rw [and128_hi (by omega) (by omega)];rfl
 have c0:IntKind.u32.wrap ((p0 % 128:Nat):Int)=((p0 % 128:Nat):Int):=u32_wrap (by omega)
 obtain ⟨a0,ha0⟩:∃ a,a=p0 % 128:=⟨_,rfl⟩
 refine fn_of_W Tryd.func58 rfl Tryd.results58 Tryd.ntmps58 rfl ?_
 repeat ((first|refine qA rfl ?_|apply qB|refine qC rfl ?_|apply qD|apply qE|apply qF|apply qG|apply qH);try simp (maxSteps:=1000000)(disch:=(first|omega|(simp only [qI,qJ,qK]<;>omega)|exact qL _)) only [go_sem,↓reduceIte,n0,reduceCtorEq,n1,n2,n3,n4,n5,i0,i1,i2,i3,i4,i5,i6,i7])
 refine W.scope 0 (fun ρ w'=>w'=w∧ρ 5 = .int .i64 0) (fun _ _=>0) rfl ?_ ?_
 rotate_left
 ·rintro ρ w' ⟨rfl,h5⟩
  repeat ((first|refine qA rfl ?_|apply qB|refine qC rfl ?_|apply qD|apply qE|apply qF|apply qG|apply qH|refine W.goto ?_|refine W.label ?_);try simp (maxSteps:=1000000)(disch:=(first|omega|(simp only [qI,qJ,qK]<;>omega)|exact qL _)) only [go_sem,↓reduceIte,n0,reduceCtorEq,n1,n2,n3,n4,n5,i0,i1,i2,i3,i4,i5,i6,i7,jumpQ_ret,jumpQ_normal,h5])
 repeat ((first|refine qA rfl ?_|apply qB|refine qC rfl ?_|apply qD|apply qE|apply qF|apply qG|apply qH|refine W.goto ?_|refine W.label ?_);try simp (maxSteps:=1000000)(disch:=(first|omega|(simp only [qI,qJ,qK]<;>omega)|exact qL _)) only [go_sem,↓reduceIte,n0,reduceCtorEq,n1,n2,n3,n4,n5,i0,i1,i2,i3,i4,i5,i6,i7,jumpQ_ret,jumpQ_normal,jumpQ_goto,q0,hx,k0,m0,c0])

set_option maxHeartbeats 1000000 in
theorem Uv_out2 {ok:Blocks} (v:Value) (b0:UInt8) (b1:UInt8) (w:World) (h:BytesV ok w v ([b0,b1])) (g0:¬ b0.toNat < 128) (g1:¬ b1.toNat < 128):Fn Tryd.prog 58 #[v] w fun r w'=>w'=w∧r = .tuple #[.int .u32 0,.int .i64 (0)]:=by
 obtain ⟨B,o,c,x,rfl,hc,hok,hx,hq⟩:=h.cells (by simp)
 have q0:x.1[o]? = some (.int .u8 b0.toNat):=hq 0 (by simp)
 have q1:x.1[o+1]? = some (.int .u8 b1.toNat):=hq 1 (by simp)
 clear hq h
 have hp0:=u8_lt b0
 generalize b0.toNat=p0 at *
 have hp1:=u8_lt b1
 generalize b1.toNat=p1 at *
 have hlt:=blk_lt hx
 have k0:IntKind.u8.wrap (((BitVec.ofInt (kbits .u8) (p0:Int) &&& BitVec.ofInt (kbits .u8) 127).toNat:Nat):Int)=((p0 % 128:Nat):Int):=by rw [and127_u8 (by omega)];exact IntWalk.u8_in _ (by omega)
 have m0:IntKind.u8.wrap (((BitVec.ofInt (kbits .u8) (p0:Int) &&& BitVec.ofInt (kbits .u8) 128).toNat:Nat):Int)=128:=by rw [and128_hi (by omega) (by omega)];rfl
 have c0:IntKind.u32.wrap ((p0 % 128:Nat):Int)=((p0 % 128:Nat):Int):=u32_wrap (by omega)
 obtain ⟨a0,ha0⟩:∃ a,a=p0 % 128:=⟨_,rfl⟩
 have k1:IntKind.u8.wrap (((BitVec.ofInt (kbits .u8) (p1:Int) &&& BitVec.ofInt (kbits .u8) 127).toNat:Nat):Int)=((p1 % 128:Nat):Int):=by rw [and127_u8 (by omega)];exact IntWalk.u8_in _ (by omega)
 have m1:IntKind.u8.wrap (((BitVec.ofInt (kbits .u8) (p1:Int) &&& BitVec.ofInt (kbits .u8) 128).toNat:Nat):Int)=128:=by rw [and128_hi (by omega) (by omega)];rfl
 have c1:IntKind.u32.wrap ((p1 % 128:Nat):Int)=((p1 % 128:Nat):Int):=u32_wrap (by omega)
 have s1:IntKind.u32.wrap (((p1 % 128:Nat):Int) * 2 ^ (min 7 (kbits .u32)))=(((p1 % 128) * 2 ^ 7:Nat):Int):=by
  rw [show (2:Int) ^ (min 7 (kbits .u32))=128 from rfl,show (2:Nat) ^ 7=128 from rfl,u32_wrap (by omega)];omega
 have hA1:p0 % 128 < 2 ^ 7:=by omega
 have o1:(BitVec.ofInt (kbits .u32) ((p0 % 128:Nat):Int) ||| BitVec.ofInt (kbits .u32) (((p1 % 128) * 2 ^ 7:Nat):Int)).toNat=(p1 % 128) * 2 ^ 7+p0 % 128:=or_shift (bits:=32) hA1 (by omega)
 obtain ⟨a1,ha1⟩:∃ a,a=(p1 % 128) * 2 ^ 7+p0 % 128:=⟨_,rfl⟩
 rw [← ha1] at o1
 have w1:IntKind.u32.wrap ((a1:Nat):Int)=((a1:Nat):Int):=u32_wrap (by omega)
 refine fn_of_W Tryd.func58 rfl Tryd.results58 Tryd.ntmps58 rfl ?_
 repeat ((first|refine qA rfl ?_|apply qB|refine qC rfl ?_|apply qD|apply qE|apply qF|apply qG|apply qH);try simp (maxSteps:=1000000)(disch:=(first|omega|(simp only [qI,qJ,qK]<;>omega)|exact qL _)) only [go_sem,↓reduceIte,n0,reduceCtorEq,n1,n2,n3,n4,n5,i0,i1,i2,i3,i4,i5,i6,i7])
 refine W.scope 0 (fun ρ w'=>w'=w∧ρ 5 = .int .i64 0) (fun _ _=>0) rfl ?_ ?_
 rotate_left
 ·rintro ρ w' ⟨rfl,h5⟩
  repeat ((first|refine qA rfl ?_|apply qB|refine qC rfl ?_|apply qD|apply qE|apply qF|apply qG|apply qH|refine W.goto ?_|refine W.label ?_);try simp (maxSteps:=1000000)(disch:=(first|omega|(simp only [qI,qJ,qK]<;>omega)|exact qL _)) only [go_sem,↓reduceIte,n0,reduceCtorEq,n1,n2,n3,n4,n5,i0,i1,i2,i3,i4,i5,i6,i7,jumpQ_ret,jumpQ_normal,h5])
 repeat ((first|refine qA rfl ?_|apply qB|refine qC rfl ?_|apply qD|apply qE|apply qF|apply qG|apply qH|refine W.goto ?_|refine W.label ?_);try simp (maxSteps:=1000000)(disch:=(first|omega|(simp only [qI,qJ,qK]<;>omega)|exact qL _)) only [go_sem,↓reduceIte,n0,reduceCtorEq,n1,n2,n3,n4,n5,i0,i1,i2,i3,i4,i5,i6,i7,jumpQ_ret,jumpQ_normal,jumpQ_goto,q0,q1,hx,k0,m0,c0,k1,m1,c1,s1,o1,w1])

set_option maxHeartbeats 1000000 in
theorem Uv_out3 {ok:Blocks} (v:Value) (b0:UInt8) (b1:UInt8) (b2:UInt8) (w:World) (h:BytesV ok w v ([b0,b1,b2])) (g0:¬ b0.toNat < 128) (g1:¬ b1.toNat < 128) (g2:¬ b2.toNat < 128):Fn Tryd.prog 58 #[v] w fun r w'=>w'=w∧r = .tuple #[.int .u32 0,.int .i64 (0)]:=by
 obtain ⟨B,o,c,x,rfl,hc,hok,hx,hq⟩:=h.cells (by simp)
 have q0:x.1[o]? = some (.int .u8 b0.toNat):=hq 0 (by simp)
 have q1:x.1[o+1]? = some (.int .u8 b1.toNat):=hq 1 (by simp)
 have q2:x.1[o+2]? = some (.int .u8 b2.toNat):=hq 2 (by simp)
 clear hq h
 have hp0:=u8_lt b0
 generalize b0.toNat=p0 at *
 have hp1:=u8_lt b1
 generalize b1.toNat=p1 at *
 have hp2:=u8_lt b2
 generalize b2.toNat=p2 at *
 have hlt:=blk_lt hx
 have k0:IntKind.u8.wrap (((BitVec.ofInt (kbits .u8) (p0:Int) &&& BitVec.ofInt (kbits .u8) 127).toNat:Nat):Int)=((p0 % 128:Nat):Int):=by rw [and127_u8 (by omega)];exact IntWalk.u8_in _ (by omega)
 have m0:IntKind.u8.wrap (((BitVec.ofInt (kbits .u8) (p0:Int) &&& BitVec.ofInt (kbits .u8) 128).toNat:Nat):Int)=128:=by rw [and128_hi (by omega) (by omega)];rfl
 have c0:IntKind.u32.wrap ((p0 % 128:Nat):Int)=((p0 % 128:Nat):Int):=u32_wrap (by omega)
 obtain ⟨a0,ha0⟩:∃ a,a=p0 % 128:=⟨_,rfl⟩
 have k1:IntKind.u8.wrap (((BitVec.ofInt (kbits .u8) (p1:Int) &&& BitVec.ofInt (kbits .u8) 127).toNat:Nat):Int)=((p1 % 128:Nat):Int):=by rw [and127_u8 (by omega)];exact IntWalk.u8_in _ (by omega)
 have m1:IntKind.u8.wrap (((BitVec.ofInt (kbits .u8) (p1:Int) &&& BitVec.ofInt (kbits .u8) 128).toNat:Nat):Int)=128:=by rw [and128_hi (by omega) (by omega)];rfl
 have c1:IntKind.u32.wrap ((p1 % 128:Nat):Int)=((p1 % 128:Nat):Int):=u32_wrap (by omega)
 have s1:IntKind.u32.wrap (((p1 % 128:Nat):Int) * 2 ^ (min 7 (kbits .u32)))=(((p1 % 128) * 2 ^ 7:Nat):Int):=by
  rw [show (2:Int) ^ (min 7 (kbits .u32))=128 from rfl,show (2:Nat) ^ 7=128 from rfl,u32_wrap (by omega)];omega
 have hA1:p0 % 128 < 2 ^ 7:=by omega
 have o1:(BitVec.ofInt (kbits .u32) ((p0 % 128:Nat):Int) ||| BitVec.ofInt (kbits .u32) (((p1 % 128) * 2 ^ 7:Nat):Int)).toNat=(p1 % 128) * 2 ^ 7+p0 % 128:=or_shift (bits:=32) hA1 (by omega)
 obtain ⟨a1,ha1⟩:∃ a,a=(p1 % 128) * 2 ^ 7+p0 % 128:=⟨_,rfl⟩
 rw [← ha1] at o1
 have w1:IntKind.u32.wrap ((a1:Nat):Int)=((a1:Nat):Int):=u32_wrap (by omega)
 have k2:IntKind.u8.wrap (((BitVec.ofInt (kbits .u8) (p2:Int) &&& BitVec.ofInt (kbits .u8) 127).toNat:Nat):Int)=((p2 % 128:Nat):Int):=by rw [and127_u8 (by omega)];exact IntWalk.u8_in _ (by omega)
 have m2:IntKind.u8.wrap (((BitVec.ofInt (kbits .u8) (p2:Int) &&& BitVec.ofInt (kbits .u8) 128).toNat:Nat):Int)=128:=by rw [and128_hi (by omega) (by omega)];rfl
 have c2:IntKind.u32.wrap ((p2 % 128:Nat):Int)=((p2 % 128:Nat):Int):=u32_wrap (by omega)
 have s2:IntKind.u32.wrap (((p2 % 128:Nat):Int) * 2 ^ (min 14 (kbits .u32)))=(((p2 % 128) * 2 ^ 14:Nat):Int):=by
  rw [show (2:Int) ^ (min 14 (kbits .u32))=16384 from rfl,show (2:Nat) ^ 14=16384 from rfl,u32_wrap (by omega)];omega
 have hA2:a1 < 2 ^ 14:=by omega
 have o2:(BitVec.ofInt (kbits .u32) ((a1:Nat):Int) ||| BitVec.ofInt (kbits .u32) (((p2 % 128) * 2 ^ 14:Nat):Int)).toNat=(p2 % 128) * 2 ^ 14+a1:=or_shift (bits:=32) hA2 (by omega)
 obtain ⟨a2,ha2⟩:∃ a,a=(p2 % 128) * 2 ^ 14+a1:=⟨_,rfl⟩
 rw [← ha2] at o2
 have w2:IntKind.u32.wrap ((a2:Nat):Int)=((a2:Nat):Int):=u32_wrap (by omega)
 refine fn_of_W Tryd.func58 rfl Tryd.results58 Tryd.ntmps58 rfl ?_
 repeat ((first|refine qA rfl ?_|apply qB|refine qC rfl ?_|apply qD|apply qE|apply qF|apply qG|apply qH);try simp (maxSteps:=1000000)(disch:=(first|omega|(simp only [qI,qJ,qK]<;>omega)|exact qL _)) only [go_sem,↓reduceIte,n0,reduceCtorEq,n1,n2,n3,n4,n5,i0,i1,i2,i3,i4,i5,i6,i7])
 refine W.scope 0 (fun ρ w'=>w'=w∧ρ 5 = .int .i64 0) (fun _ _=>0) rfl ?_ ?_
 rotate_left
 ·rintro ρ w' ⟨rfl,h5⟩
  repeat ((first|refine qA rfl ?_|apply qB|refine qC rfl ?_|apply qD|apply qE|apply qF|apply qG|apply qH|refine W.goto ?_|refine W.label ?_);try simp (maxSteps:=1000000)(disch:=(first|omega|(simp only [qI,qJ,qK]<;>omega)|exact qL _)) only [go_sem,↓reduceIte,n0,reduceCtorEq,n1,n2,n3,n4,n5,i0,i1,i2,i3,i4,i5,i6,i7,jumpQ_ret,jumpQ_normal,h5])
 repeat ((first|refine qA rfl ?_|apply qB|refine qC rfl ?_|apply qD|apply qE|apply qF|apply qG|apply qH|refine W.goto ?_|refine W.label ?_);try simp (maxSteps:=1000000)(disch:=(first|omega|(simp only [qI,qJ,qK]<;>omega)|exact qL _)) only [go_sem,↓reduceIte,n0,reduceCtorEq,n1,n2,n3,n4,n5,i0,i1,i2,i3,i4,i5,i6,i7,jumpQ_ret,jumpQ_normal,jumpQ_goto,q0,q1,q2,hx,k0,m0,c0,k1,m1,c1,s1,o1,w1,k2,m2,c2,s2,o2,w2])

set_option maxHeartbeats 1000000 in
theorem Uv_out4 {ok:Blocks} (v:Value) (b0:UInt8) (b1:UInt8) (b2:UInt8) (b3:UInt8) (w:World) (h:BytesV ok w v ([b0,b1,b2,b3])) (g0:¬ b0.toNat < 128) (g1:¬ b1.toNat < 128) (g2:¬ b2.toNat < 128) (g3:¬ b3.toNat < 128):Fn Tryd.prog 58 #[v] w fun r w'=>w'=w∧r = .tuple #[.int .u32 0,.int .i64 (0)]:=by
 obtain ⟨B,o,c,x,rfl,hc,hok,hx,hq⟩:=h.cells (by simp)
 have q0:x.1[o]? = some (.int .u8 b0.toNat):=hq 0 (by simp)
 have q1:x.1[o+1]? = some (.int .u8 b1.toNat):=hq 1 (by simp)
 have q2:x.1[o+2]? = some (.int .u8 b2.toNat):=hq 2 (by simp)
 have q3:x.1[o+3]? = some (.int .u8 b3.toNat):=hq 3 (by simp)
 clear hq h
 have hp0:=u8_lt b0
 generalize b0.toNat=p0 at *
 have hp1:=u8_lt b1
 generalize b1.toNat=p1 at *
 have hp2:=u8_lt b2
 generalize b2.toNat=p2 at *
 have hp3:=u8_lt b3
 generalize b3.toNat=p3 at *
 have hlt:=blk_lt hx
 have k0:IntKind.u8.wrap (((BitVec.ofInt (kbits .u8) (p0:Int) &&& BitVec.ofInt (kbits .u8) 127).toNat:Nat):Int)=((p0 % 128:Nat):Int):=by rw [and127_u8 (by omega)];exact IntWalk.u8_in _ (by omega)
 have m0:IntKind.u8.wrap (((BitVec.ofInt (kbits .u8) (p0:Int) &&& BitVec.ofInt (kbits .u8) 128).toNat:Nat):Int)=128:=by rw [and128_hi (by omega) (by omega)];rfl
 have c0:IntKind.u32.wrap ((p0 % 128:Nat):Int)=((p0 % 128:Nat):Int):=u32_wrap (by omega)
 obtain ⟨a0,ha0⟩:∃ a,a=p0 % 128:=⟨_,rfl⟩
 have k1:IntKind.u8.wrap (((BitVec.ofInt (kbits .u8) (p1:Int) &&& BitVec.ofInt (kbits .u8) 127).toNat:Nat):Int)=((p1 % 128:Nat):Int):=by rw [and127_u8 (by omega)];exact IntWalk.u8_in _ (by omega)
 have m1:IntKind.u8.wrap (((BitVec.ofInt (kbits .u8) (p1:Int) &&& BitVec.ofInt (kbits .u8) 128).toNat:Nat):Int)=128:=by rw [and128_hi (by omega) (by omega)];rfl
 have c1:IntKind.u32.wrap ((p1 % 128:Nat):Int)=((p1 % 128:Nat):Int):=u32_wrap (by omega)
 have s1:IntKind.u32.wrap (((p1 % 128:Nat):Int) * 2 ^ (min 7 (kbits .u32)))=(((p1 % 128) * 2 ^ 7:Nat):Int):=by
  rw [show (2:Int) ^ (min 7 (kbits .u32))=128 from rfl,show (2:Nat) ^ 7=128 from rfl,u32_wrap (by omega)];omega
 have hA1:p0 % 128 < 2 ^ 7:=by omega
 have o1:(BitVec.ofInt (kbits .u32) ((p0 % 128:Nat):Int) ||| BitVec.ofInt (kbits .u32) (((p1 % 128) * 2 ^ 7:Nat):Int)).toNat=(p1 % 128) * 2 ^ 7+p0 % 128:=or_shift (bits:=32) hA1 (by omega)
 obtain ⟨a1,ha1⟩:∃ a,a=(p1 % 128) * 2 ^ 7+p0 % 128:=⟨_,rfl⟩
 rw [← ha1] at o1
 have w1:IntKind.u32.wrap ((a1:Nat):Int)=((a1:Nat):Int):=u32_wrap (by omega)
 have k2:IntKind.u8.wrap (((BitVec.ofInt (kbits .u8) (p2:Int) &&& BitVec.ofInt (kbits .u8) 127).toNat:Nat):Int)=((p2 % 128:Nat):Int):=by rw [and127_u8 (by omega)];exact IntWalk.u8_in _ (by omega)
 have m2:IntKind.u8.wrap (((BitVec.ofInt (kbits .u8) (p2:Int) &&& BitVec.ofInt (kbits .u8) 128).toNat:Nat):Int)=128:=by rw [and128_hi (by omega) (by omega)];rfl
 have c2:IntKind.u32.wrap ((p2 % 128:Nat):Int)=((p2 % 128:Nat):Int):=u32_wrap (by omega)
 have s2:IntKind.u32.wrap (((p2 % 128:Nat):Int) * 2 ^ (min 14 (kbits .u32)))=(((p2 % 128) * 2 ^ 14:Nat):Int):=by
  rw [show (2:Int) ^ (min 14 (kbits .u32))=16384 from rfl,show (2:Nat) ^ 14=16384 from rfl,u32_wrap (by omega)];omega
 have hA2:a1 < 2 ^ 14:=by omega
 have o2:(BitVec.ofInt (kbits .u32) ((a1:Nat):Int) ||| BitVec.ofInt (kbits .u32) (((p2 % 128) * 2 ^ 14:Nat):Int)).toNat=(p2 % 128) * 2 ^ 14+a1:=or_shift (bits:=32) hA2 (by omega)
 obtain ⟨a2,ha2⟩:∃ a,a=(p2 % 128) * 2 ^ 14+a1:=⟨_,rfl⟩
 rw [← ha2] at o2
 have w2:IntKind.u32.wrap ((a2:Nat):Int)=((a2:Nat):Int):=u32_wrap (by omega)
 have k3:IntKind.u8.wrap (((BitVec.ofInt (kbits .u8) (p3:Int) &&& BitVec.ofInt (kbits .u8) 127).toNat:Nat):Int)=((p3 % 128:Nat):Int):=by rw [and127_u8 (by omega)];exact IntWalk.u8_in _ (by omega)
 have m3:IntKind.u8.wrap (((BitVec.ofInt (kbits .u8) (p3:Int) &&& BitVec.ofInt (kbits .u8) 128).toNat:Nat):Int)=128:=by rw [and128_hi (by omega) (by omega)];rfl
 have c3:IntKind.u32.wrap ((p3 % 128:Nat):Int)=((p3 % 128:Nat):Int):=u32_wrap (by omega)
 have s3:IntKind.u32.wrap (((p3 % 128:Nat):Int) * 2 ^ (min 21 (kbits .u32)))=(((p3 % 128) * 2 ^ 21:Nat):Int):=by
  rw [show (2:Int) ^ (min 21 (kbits .u32))=2097152 from rfl,show (2:Nat) ^ 21=2097152 from rfl,u32_wrap (by omega)];omega
 have hA3:a2 < 2 ^ 21:=by omega
 have o3:(BitVec.ofInt (kbits .u32) ((a2:Nat):Int) ||| BitVec.ofInt (kbits .u32) (((p3 % 128) * 2 ^ 21:Nat):Int)).toNat=(p3 % 128) * 2 ^ 21+a2:=or_shift (bits:=32) hA3 (by omega)
 obtain ⟨a3,ha3⟩:∃ a,a=(p3 % 128) * 2 ^ 21+a2:=⟨_,rfl⟩
 rw [← ha3] at o3
 have w3:IntKind.u32.wrap ((a3:Nat):Int)=((a3:Nat):Int):=u32_wrap (by omega)
 refine fn_of_W Tryd.func58 rfl Tryd.results58 Tryd.ntmps58 rfl ?_
 repeat ((first|refine qA rfl ?_|apply qB|refine qC rfl ?_|apply qD|apply qE|apply qF|apply qG|apply qH);try simp (maxSteps:=1000000)(disch:=(first|omega|(simp only [qI,qJ,qK]<;>omega)|exact qL _)) only [go_sem,↓reduceIte,n0,reduceCtorEq,n1,n2,n3,n4,n5,i0,i1,i2,i3,i4,i5,i6,i7])
 refine W.scope 0 (fun ρ w'=>w'=w∧ρ 5 = .int .i64 0) (fun _ _=>0) rfl ?_ ?_
 rotate_left
 ·rintro ρ w' ⟨rfl,h5⟩
  repeat ((first|refine qA rfl ?_|apply qB|refine qC rfl ?_|apply qD|apply qE|apply qF|apply qG|apply qH|refine W.goto ?_|refine W.label ?_);try simp (maxSteps:=1000000)(disch:=(first|omega|(simp only [qI,qJ,qK]<;>omega)|exact qL _)) only [go_sem,↓reduceIte,n0,reduceCtorEq,n1,n2,n3,n4,n5,i0,i1,i2,i3,i4,i5,i6,i7,jumpQ_ret,jumpQ_normal,h5])
 repeat ((first|refine qA rfl ?_|apply qB|refine qC rfl ?_|apply qD|apply qE|apply qF|apply qG|apply qH|refine W.goto ?_|refine W.label ?_);try simp (maxSteps:=1000000)(disch:=(first|omega|(simp only [qI,qJ,qK]<;>omega)|exact qL _)) only [go_sem,↓reduceIte,n0,reduceCtorEq,n1,n2,n3,n4,n5,i0,i1,i2,i3,i4,i5,i6,i7,jumpQ_ret,jumpQ_normal,jumpQ_goto,q0,q1,q2,q3,hx,k0,m0,c0,k1,m1,c1,s1,o1,w1,k2,m2,c2,s2,o2,w2,k3,m3,c3,s3,o3,w3])

set_option maxHeartbeats 1000000 in
theorem Uv_stop0 {ok:Blocks} (v:Value) (b0:UInt8) (rest:List UInt8) (w:World) (h:BytesV ok w v (b0 :: rest))  (gl:b0.toNat < 128):Fn Tryd.prog 58 #[v] w fun r w'=>w'=w∧r = .tuple #[.int .u32 ((b0.toNat:Nat):Int),.int .i64 1]:=by
 obtain ⟨B,o,c,x,rfl,hc,hok,hx,hq⟩:=h.cells (by simp)
 have q0:x.1[o]? = some (.int .u8 b0.toNat):=hq 0 (by simp)
 clear hq h
 have hp0:=u8_lt b0
 generalize b0.toNat=p0 at *
 have hlt:=blk_lt hx
 have k0:IntKind.u8.wrap (((BitVec.ofInt (kbits .u8) (p0:Int) &&& BitVec.ofInt (kbits .u8) 127).toNat:Nat):Int)=((p0 % 128:Nat):Int):=by rw [and127_u8 (by omega)];exact IntWalk.u8_in _ (by omega)
 have m0:IntKind.u8.wrap (((BitVec.ofInt (kbits .u8) (p0:Int) &&& BitVec.ofInt (kbits .u8) 128).toNat:Nat):Int)=0:=by rw [and128_lo (by omega)];rfl
 have c0:IntKind.u32.wrap ((p0 % 128:Nat):Int)=((p0 % 128:Nat):Int):=u32_wrap (by omega)
 obtain ⟨a0,ha0⟩:∃ a,a=p0 % 128:=⟨_,rfl⟩
 refine fn_of_W Tryd.func58 rfl Tryd.results58 Tryd.ntmps58 rfl ?_
 repeat ((first|refine qA rfl ?_|apply qB|refine qC rfl ?_|apply qD|apply qE|apply qF|apply qG|apply qH);try simp (maxSteps:=1000000)(disch:=(first|omega|(simp only [qI,qJ,qK]<;>omega)|exact qL _)) only [go_sem,↓reduceIte,n0,reduceCtorEq,n1,n2,n3,n4,n5,i0,i1,i2,i3,i4,i5,i6,i7])
 refine W.scope 0 (fun _ _=>False) (fun _ _=>0) rfl ?_ (fun _ _ h=>h.elim)
 repeat ((first|refine qA rfl ?_|apply qB|refine qC rfl ?_|apply qD|apply qE|apply qF|apply qG|apply qH|refine W.goto ?_|refine W.label ?_);try simp (maxSteps:=1000000)(disch:=(first|omega|(simp only [qI,qJ,qK]<;>omega)|exact qL _)) only [go_sem,↓reduceIte,n0,reduceCtorEq,n1,n2,n3,n4,n5,i0,i1,i2,i3,i4,i5,i6,i7,jumpQ_ret,jumpQ_normal,jumpQ_goto,q0,hx,k0,m0,c0])
 rw [show p0 % 128=p0 by omega]

set_option maxHeartbeats 1000000 in
theorem Uv_stop1 {ok:Blocks} (v:Value) (b0:UInt8) (b1:UInt8) (rest:List UInt8) (w:World) (h:BytesV ok w v (b0 :: b1 :: rest)) (g0:¬ b0.toNat < 128) (gl:b1.toNat < 128):Fn Tryd.prog 58 #[v] w fun r w'=>w'=w∧r = .tuple #[.int .u32 (((b0.toNat % 128+128 * b1.toNat):Nat):Int),.int .i64 2]:=by
 obtain ⟨B,o,c,x,rfl,hc,hok,hx,hq⟩:=h.cells (by simp)
 have q0:x.1[o]? = some (.int .u8 b0.toNat):=hq 0 (by simp)
 have q1:x.1[o+1]? = some (.int .u8 b1.toNat):=hq 1 (by simp)
 clear hq h
 have hp0:=u8_lt b0
 generalize b0.toNat=p0 at *
 have hp1:=u8_lt b1
 generalize b1.toNat=p1 at *
 have hlt:=blk_lt hx
 have k0:IntKind.u8.wrap (((BitVec.ofInt (kbits .u8) (p0:Int) &&& BitVec.ofInt (kbits .u8) 127).toNat:Nat):Int)=((p0 % 128:Nat):Int):=by rw [and127_u8 (by omega)];exact IntWalk.u8_in _ (by omega)
 have m0:IntKind.u8.wrap (((BitVec.ofInt (kbits .u8) (p0:Int) &&& BitVec.ofInt (kbits .u8) 128).toNat:Nat):Int)=128:=by rw [and128_hi (by omega) (by omega)];rfl
 have c0:IntKind.u32.wrap ((p0 % 128:Nat):Int)=((p0 % 128:Nat):Int):=u32_wrap (by omega)
 obtain ⟨a0,ha0⟩:∃ a,a=p0 % 128:=⟨_,rfl⟩
 have k1:IntKind.u8.wrap (((BitVec.ofInt (kbits .u8) (p1:Int) &&& BitVec.ofInt (kbits .u8) 127).toNat:Nat):Int)=((p1 % 128:Nat):Int):=by rw [and127_u8 (by omega)];exact IntWalk.u8_in _ (by omega)
 have m1:IntKind.u8.wrap (((BitVec.ofInt (kbits .u8) (p1:Int) &&& BitVec.ofInt (kbits .u8) 128).toNat:Nat):Int)=0:=by rw [and128_lo (by omega)];rfl
 have c1:IntKind.u32.wrap ((p1 % 128:Nat):Int)=((p1 % 128:Nat):Int):=u32_wrap (by omega)
 have s1:IntKind.u32.wrap (((p1 % 128:Nat):Int) * 2 ^ (min 7 (kbits .u32)))=(((p1 % 128) * 2 ^ 7:Nat):Int):=by
  rw [show (2:Int) ^ (min 7 (kbits .u32))=128 from rfl,show (2:Nat) ^ 7=128 from rfl,u32_wrap (by omega)];omega
 have hA1:p0 % 128 < 2 ^ 7:=by omega
 have o1:(BitVec.ofInt (kbits .u32) ((p0 % 128:Nat):Int) ||| BitVec.ofInt (kbits .u32) (((p1 % 128) * 2 ^ 7:Nat):Int)).toNat=(p1 % 128) * 2 ^ 7+p0 % 128:=or_shift (bits:=32) hA1 (by omega)
 obtain ⟨a1,ha1⟩:∃ a,a=(p1 % 128) * 2 ^ 7+p0 % 128:=⟨_,rfl⟩
 rw [← ha1] at o1
 have w1:IntKind.u32.wrap ((a1:Nat):Int)=((a1:Nat):Int):=u32_wrap (by omega)
 refine fn_of_W Tryd.func58 rfl Tryd.results58 Tryd.ntmps58 rfl ?_
 repeat ((first|refine qA rfl ?_|apply qB|refine qC rfl ?_|apply qD|apply qE|apply qF|apply qG|apply qH);try simp (maxSteps:=1000000)(disch:=(first|omega|(simp only [qI,qJ,qK]<;>omega)|exact qL _)) only [go_sem,↓reduceIte,n0,reduceCtorEq,n1,n2,n3,n4,n5,i0,i1,i2,i3,i4,i5,i6,i7])
 refine W.scope 0 (fun _ _=>False) (fun _ _=>0) rfl ?_ (fun _ _ h=>h.elim)
 repeat ((first|refine qA rfl ?_|apply qB|refine qC rfl ?_|apply qD|apply qE|apply qF|apply qG|apply qH|refine W.goto ?_|refine W.label ?_);try simp (maxSteps:=1000000)(disch:=(first|omega|(simp only [qI,qJ,qK]<;>omega)|exact qL _)) only [go_sem,↓reduceIte,n0,reduceCtorEq,n1,n2,n3,n4,n5,i0,i1,i2,i3,i4,i5,i6,i7,jumpQ_ret,jumpQ_normal,jumpQ_goto,q0,q1,hx,k0,m0,c0,k1,m1,c1,s1,o1,w1])
 have hfin:(p0 % 128+128 * p1)=a1:=by omega
 rw [hfin]

set_option maxHeartbeats 1000000 in
theorem Uv_stop2 {ok:Blocks} (v:Value) (b0:UInt8) (b1:UInt8) (b2:UInt8) (rest:List UInt8) (w:World) (h:BytesV ok w v (b0 :: b1 :: b2 :: rest)) (g0:¬ b0.toNat < 128) (g1:¬ b1.toNat < 128) (gl:b2.toNat < 128):Fn Tryd.prog 58 #[v] w fun r w'=>w'=w∧r = .tuple #[.int .u32 (((b0.toNat % 128+128 * (b1.toNat % 128+128 * b2.toNat)):Nat):Int),.int .i64 3]:=by
 obtain ⟨B,o,c,x,rfl,hc,hok,hx,hq⟩:=h.cells (by simp)
 have q0:x.1[o]? = some (.int .u8 b0.toNat):=hq 0 (by simp)
 have q1:x.1[o+1]? = some (.int .u8 b1.toNat):=hq 1 (by simp)
 have q2:x.1[o+2]? = some (.int .u8 b2.toNat):=hq 2 (by simp)
 clear hq h
 have hp0:=u8_lt b0
 generalize b0.toNat=p0 at *
 have hp1:=u8_lt b1
 generalize b1.toNat=p1 at *
 have hp2:=u8_lt b2
 generalize b2.toNat=p2 at *
 have hlt:=blk_lt hx
 have k0:IntKind.u8.wrap (((BitVec.ofInt (kbits .u8) (p0:Int) &&& BitVec.ofInt (kbits .u8) 127).toNat:Nat):Int)=((p0 % 128:Nat):Int):=by rw [and127_u8 (by omega)];exact IntWalk.u8_in _ (by omega)
 have m0:IntKind.u8.wrap (((BitVec.ofInt (kbits .u8) (p0:Int) &&& BitVec.ofInt (kbits .u8) 128).toNat:Nat):Int)=128:=by rw [and128_hi (by omega) (by omega)];rfl
 have c0:IntKind.u32.wrap ((p0 % 128:Nat):Int)=((p0 % 128:Nat):Int):=u32_wrap (by omega)
 obtain ⟨a0,ha0⟩:∃ a,a=p0 % 128:=⟨_,rfl⟩
 have k1:IntKind.u8.wrap (((BitVec.ofInt (kbits .u8) (p1:Int) &&& BitVec.ofInt (kbits .u8) 127).toNat:Nat):Int)=((p1 % 128:Nat):Int):=by rw [and127_u8 (by omega)];exact IntWalk.u8_in _ (by omega)
 have m1:IntKind.u8.wrap (((BitVec.ofInt (kbits .u8) (p1:Int) &&& BitVec.ofInt (kbits .u8) 128).toNat:Nat):Int)=128:=by rw [and128_hi (by omega) (by omega)];rfl
 have c1:IntKind.u32.wrap ((p1 % 128:Nat):Int)=((p1 % 128:Nat):Int):=u32_wrap (by omega)
 have s1:IntKind.u32.wrap (((p1 % 128:Nat):Int) * 2 ^ (min 7 (kbits .u32)))=(((p1 % 128) * 2 ^ 7:Nat):Int):=by
  rw [show (2:Int) ^ (min 7 (kbits .u32))=128 from rfl,show (2:Nat) ^ 7=128 from rfl,u32_wrap (by omega)];omega
 have hA1:p0 % 128 < 2 ^ 7:=by omega
 have o1:(BitVec.ofInt (kbits .u32) ((p0 % 128:Nat):Int) ||| BitVec.ofInt (kbits .u32) (((p1 % 128) * 2 ^ 7:Nat):Int)).toNat=(p1 % 128) * 2 ^ 7+p0 % 128:=or_shift (bits:=32) hA1 (by omega)
 obtain ⟨a1,ha1⟩:∃ a,a=(p1 % 128) * 2 ^ 7+p0 % 128:=⟨_,rfl⟩
 rw [← ha1] at o1
 have w1:IntKind.u32.wrap ((a1:Nat):Int)=((a1:Nat):Int):=u32_wrap (by omega)
 have k2:IntKind.u8.wrap (((BitVec.ofInt (kbits .u8) (p2:Int) &&& BitVec.ofInt (kbits .u8) 127).toNat:Nat):Int)=((p2 % 128:Nat):Int):=by rw [and127_u8 (by omega)];exact IntWalk.u8_in _ (by omega)
 have m2:IntKind.u8.wrap (((BitVec.ofInt (kbits .u8) (p2:Int) &&& BitVec.ofInt (kbits .u8) 128).toNat:Nat):Int)=0:=by rw [and128_lo (by omega)];rfl
 have c2:IntKind.u32.wrap ((p2 % 128:Nat):Int)=((p2 % 128:Nat):Int):=u32_wrap (by omega)
 have s2:IntKind.u32.wrap (((p2 % 128:Nat):Int) * 2 ^ (min 14 (kbits .u32)))=(((p2 % 128) * 2 ^ 14:Nat):Int):=by
  rw [show (2:Int) ^ (min 14 (kbits .u32))=16384 from rfl,show (2:Nat) ^ 14=16384 from rfl,u32_wrap (by omega)];omega
 have hA2:a1 < 2 ^ 14:=by omega
 have o2:(BitVec.ofInt (kbits .u32) ((a1:Nat):Int) ||| BitVec.ofInt (kbits .u32) (((p2 % 128) * 2 ^ 14:Nat):Int)).toNat=(p2 % 128) * 2 ^ 14+a1:=or_shift (bits:=32) hA2 (by omega)
 obtain ⟨a2,ha2⟩:∃ a,a=(p2 % 128) * 2 ^ 14+a1:=⟨_,rfl⟩
 rw [← ha2] at o2
 have w2:IntKind.u32.wrap ((a2:Nat):Int)=((a2:Nat):Int):=u32_wrap (by omega)
 refine fn_of_W Tryd.func58 rfl Tryd.results58 Tryd.ntmps58 rfl ?_
 repeat ((first|refine qA rfl ?_|apply qB|refine qC rfl ?_|apply qD|apply qE|apply qF|apply qG|apply qH);try simp (maxSteps:=1000000)(disch:=(first|omega|(simp only [qI,qJ,qK]<;>omega)|exact qL _)) only [go_sem,↓reduceIte,n0,reduceCtorEq,n1,n2,n3,n4,n5,i0,i1,i2,i3,i4,i5,i6,i7])
 refine W.scope 0 (fun _ _=>False) (fun _ _=>0) rfl ?_ (fun _ _ h=>h.elim)
 repeat ((first|refine qA rfl ?_|apply qB|refine qC rfl ?_|apply qD|apply qE|apply qF|apply qG|apply qH|refine W.goto ?_|refine W.label ?_);try simp (maxSteps:=1000000)(disch:=(first|omega|(simp only [qI,qJ,qK]<;>omega)|exact qL _)) only [go_sem,↓reduceIte,n0,reduceCtorEq,n1,n2,n3,n4,n5,i0,i1,i2,i3,i4,i5,i6,i7,jumpQ_ret,jumpQ_normal,jumpQ_goto,q0,q1,q2,hx,k0,m0,c0,k1,m1,c1,s1,o1,w1,k2,m2,c2,s2,o2,w2])
 have hfin:(p0 % 128+128 * (p1 % 128+128 * p2))=a2:=by omega
 rw [hfin]

set_option maxHeartbeats 1000000 in
theorem Uv_stop3 {ok:Blocks} (v:Value) (b0:UInt8) (b1:UInt8) (b2:UInt8) (b3:UInt8) (rest:List UInt8) (w:World) (h:BytesV ok w v (b0 :: b1 :: b2 :: b3 :: rest)) (g0:¬ b0.toNat < 128) (g1:¬ b1.toNat < 128) (g2:¬ b2.toNat < 128) (gl:b3.toNat < 128):Fn Tryd.prog 58 #[v] w fun r w'=>w'=w∧r = .tuple #[.int .u32 (((b0.toNat % 128+128 * (b1.toNat % 128+128 * (b2.toNat % 128+128 * b3.toNat))):Nat):Int),.int .i64 4]:=by
 obtain ⟨B,o,c,x,rfl,hc,hok,hx,hq⟩:=h.cells (by simp)
 have q0:x.1[o]? = some (.int .u8 b0.toNat):=hq 0 (by simp)
 have q1:x.1[o+1]? = some (.int .u8 b1.toNat):=hq 1 (by simp)
 have q2:x.1[o+2]? = some (.int .u8 b2.toNat):=hq 2 (by simp)
 have q3:x.1[o+3]? = some (.int .u8 b3.toNat):=hq 3 (by simp)
 clear hq h
 have hp0:=u8_lt b0
 generalize b0.toNat=p0 at *
 have hp1:=u8_lt b1
 generalize b1.toNat=p1 at *
 have hp2:=u8_lt b2
 generalize b2.toNat=p2 at *
 have hp3:=u8_lt b3
 generalize b3.toNat=p3 at *
 have hlt:=blk_lt hx
 have k0:IntKind.u8.wrap (((BitVec.ofInt (kbits .u8) (p0:Int) &&& BitVec.ofInt (kbits .u8) 127).toNat:Nat):Int)=((p0 % 128:Nat):Int):=by rw [and127_u8 (by omega)];exact IntWalk.u8_in _ (by omega)
 have m0:IntKind.u8.wrap (((BitVec.ofInt (kbits .u8) (p0:Int) &&& BitVec.ofInt (kbits .u8) 128).toNat:Nat):Int)=128:=by rw [and128_hi (by omega) (by omega)];rfl
 have c0:IntKind.u32.wrap ((p0 % 128:Nat):Int)=((p0 % 128:Nat):Int):=u32_wrap (by omega)
 obtain ⟨a0,ha0⟩:∃ a,a=p0 % 128:=⟨_,rfl⟩
 have k1:IntKind.u8.wrap (((BitVec.ofInt (kbits .u8) (p1:Int) &&& BitVec.ofInt (kbits .u8) 127).toNat:Nat):Int)=((p1 % 128:Nat):Int):=by rw [and127_u8 (by omega)];exact IntWalk.u8_in _ (by omega)
 have m1:IntKind.u8.wrap (((BitVec.ofInt (kbits .u8) (p1:Int) &&& BitVec.ofInt (kbits .u8) 128).toNat:Nat):Int)=128:=by rw [and128_hi (by omega) (by omega)];rfl
 have c1:IntKind.u32.wrap ((p1 % 128:Nat):Int)=((p1 % 128:Nat):Int):=u32_wrap (by omega)
 have s1:IntKind.u32.wrap (((p1 % 128:Nat):Int) * 2 ^ (min 7 (kbits .u32)))=(((p1 % 128) * 2 ^ 7:Nat):Int):=by
  rw [show (2:Int) ^ (min 7 (kbits .u32))=128 from rfl,show (2:Nat) ^ 7=128 from rfl,u32_wrap (by omega)];omega
 have hA1:p0 % 128 < 2 ^ 7:=by omega
 have o1:(BitVec.ofInt (kbits .u32) ((p0 % 128:Nat):Int) ||| BitVec.ofInt (kbits .u32) (((p1 % 128) * 2 ^ 7:Nat):Int)).toNat=(p1 % 128) * 2 ^ 7+p0 % 128:=or_shift (bits:=32) hA1 (by omega)
 obtain ⟨a1,ha1⟩:∃ a,a=(p1 % 128) * 2 ^ 7+p0 % 128:=⟨_,rfl⟩
 rw [← ha1] at o1
 have w1:IntKind.u32.wrap ((a1:Nat):Int)=((a1:Nat):Int):=u32_wrap (by omega)
 have k2:IntKind.u8.wrap (((BitVec.ofInt (kbits .u8) (p2:Int) &&& BitVec.ofInt (kbits .u8) 127).toNat:Nat):Int)=((p2 % 128:Nat):Int):=by rw [and127_u8 (by omega)];exact IntWalk.u8_in _ (by omega)
 have m2:IntKind.u8.wrap (((BitVec.ofInt (kbits .u8) (p2:Int) &&& BitVec.ofInt (kbits .u8) 128).toNat:Nat):Int)=128:=by rw [and128_hi (by omega) (by omega)];rfl
 have c2:IntKind.u32.wrap ((p2 % 128:Nat):Int)=((p2 % 128:Nat):Int):=u32_wrap (by omega)
 have s2:IntKind.u32.wrap (((p2 % 128:Nat):Int) * 2 ^ (min 14 (kbits .u32)))=(((p2 % 128) * 2 ^ 14:Nat):Int):=by
  rw [show (2:Int) ^ (min 14 (kbits .u32))=16384 from rfl,show (2:Nat) ^ 14=16384 from rfl,u32_wrap (by omega)];omega
 have hA2:a1 < 2 ^ 14:=by omega
 have o2:(BitVec.ofInt (kbits .u32) ((a1:Nat):Int) ||| BitVec.ofInt (kbits .u32) (((p2 % 128) * 2 ^ 14:Nat):Int)).toNat=(p2 % 128) * 2 ^ 14+a1:=or_shift (bits:=32) hA2 (by omega)
 obtain ⟨a2,ha2⟩:∃ a,a=(p2 % 128) * 2 ^ 14+a1:=⟨_,rfl⟩
 rw [← ha2] at o2
 have w2:IntKind.u32.wrap ((a2:Nat):Int)=((a2:Nat):Int):=u32_wrap (by omega)
 have k3:IntKind.u8.wrap (((BitVec.ofInt (kbits .u8) (p3:Int) &&& BitVec.ofInt (kbits .u8) 127).toNat:Nat):Int)=((p3 % 128:Nat):Int):=by rw [and127_u8 (by omega)];exact IntWalk.u8_in _ (by omega)
 have m3:IntKind.u8.wrap (((BitVec.ofInt (kbits .u8) (p3:Int) &&& BitVec.ofInt (kbits .u8) 128).toNat:Nat):Int)=0:=by rw [and128_lo (by omega)];rfl
 have c3:IntKind.u32.wrap ((p3 % 128:Nat):Int)=((p3 % 128:Nat):Int):=u32_wrap (by omega)
 have s3:IntKind.u32.wrap (((p3 % 128:Nat):Int) * 2 ^ (min 21 (kbits .u32)))=(((p3 % 128) * 2 ^ 21:Nat):Int):=by
  rw [show (2:Int) ^ (min 21 (kbits .u32))=2097152 from rfl,show (2:Nat) ^ 21=2097152 from rfl,u32_wrap (by omega)];omega
 have hA3:a2 < 2 ^ 21:=by omega
 have o3:(BitVec.ofInt (kbits .u32) ((a2:Nat):Int) ||| BitVec.ofInt (kbits .u32) (((p3 % 128) * 2 ^ 21:Nat):Int)).toNat=(p3 % 128) * 2 ^ 21+a2:=or_shift (bits:=32) hA3 (by omega)
 obtain ⟨a3,ha3⟩:∃ a,a=(p3 % 128) * 2 ^ 21+a2:=⟨_,rfl⟩
 rw [← ha3] at o3
 have w3:IntKind.u32.wrap ((a3:Nat):Int)=((a3:Nat):Int):=u32_wrap (by omega)
 refine fn_of_W Tryd.func58 rfl Tryd.results58 Tryd.ntmps58 rfl ?_
 repeat ((first|refine qA rfl ?_|apply qB|refine qC rfl ?_|apply qD|apply qE|apply qF|apply qG|apply qH);try simp (maxSteps:=1000000)(disch:=(first|omega|(simp only [qI,qJ,qK]<;>omega)|exact qL _)) only [go_sem,↓reduceIte,n0,reduceCtorEq,n1,n2,n3,n4,n5,i0,i1,i2,i3,i4,i5,i6,i7])
 refine W.scope 0 (fun _ _=>False) (fun _ _=>0) rfl ?_ (fun _ _ h=>h.elim)
 repeat ((first|refine qA rfl ?_|apply qB|refine qC rfl ?_|apply qD|apply qE|apply qF|apply qG|apply qH|refine W.goto ?_|refine W.label ?_);try simp (maxSteps:=1000000)(disch:=(first|omega|(simp only [qI,qJ,qK]<;>omega)|exact qL _)) only [go_sem,↓reduceIte,n0,reduceCtorEq,n1,n2,n3,n4,n5,i0,i1,i2,i3,i4,i5,i6,i7,jumpQ_ret,jumpQ_normal,jumpQ_goto,q0,q1,q2,q3,hx,k0,m0,c0,k1,m1,c1,s1,o1,w1,k2,m2,c2,s2,o2,w2,k3,m3,c3,s3,o3,w3])
 have hfin:(p0 % 128+128 * (p1 % 128+128 * (p2 % 128+128 * p3)))=a3:=by omega
 rw [hfin]

set_option maxHeartbeats 1000000 in
theorem Uv_stop4 {ok:Blocks} (v:Value) (b0:UInt8) (b1:UInt8) (b2:UInt8) (b3:UInt8) (b4:UInt8) (rest:List UInt8) (w:World) (h:BytesV ok w v (b0 :: b1 :: b2 :: b3 :: b4 :: rest)) (g0:¬ b0.toNat < 128) (g1:¬ b1.toNat < 128) (g2:¬ b2.toNat < 128) (g3:¬ b3.toNat < 128) (gl:b4.toNat≤15):Fn Tryd.prog 58 #[v] w fun r w'=>w'=w∧r = .tuple #[.int .u32 (((b0.toNat % 128+128 * (b1.toNat % 128+128 * (b2.toNat % 128+128 * (b3.toNat % 128+128 * b4.toNat)))):Nat):Int),.int .i64 5]:=by
 obtain ⟨B,o,c,x,rfl,hc,hok,hx,hq⟩:=h.cells (by simp)
 have q0:x.1[o]? = some (.int .u8 b0.toNat):=hq 0 (by simp)
 have q1:x.1[o+1]? = some (.int .u8 b1.toNat):=hq 1 (by simp)
 have q2:x.1[o+2]? = some (.int .u8 b2.toNat):=hq 2 (by simp)
 have q3:x.1[o+3]? = some (.int .u8 b3.toNat):=hq 3 (by simp)
 have q4:x.1[o+4]? = some (.int .u8 b4.toNat):=hq 4 (by simp)
 clear hq h
 have hp0:=u8_lt b0
 generalize b0.toNat=p0 at *
 have hp1:=u8_lt b1
 generalize b1.toNat=p1 at *
 have hp2:=u8_lt b2
 generalize b2.toNat=p2 at *
 have hp3:=u8_lt b3
 generalize b3.toNat=p3 at *
 have hp4:=u8_lt b4
 generalize b4.toNat=p4 at *
 have hlt:=blk_lt hx
 have k0:IntKind.u8.wrap (((BitVec.ofInt (kbits .u8) (p0:Int) &&& BitVec.ofInt (kbits .u8) 127).toNat:Nat):Int)=((p0 % 128:Nat):Int):=by rw [and127_u8 (by omega)];exact IntWalk.u8_in _ (by omega)
 have m0:IntKind.u8.wrap (((BitVec.ofInt (kbits .u8) (p0:Int) &&& BitVec.ofInt (kbits .u8) 128).toNat:Nat):Int)=128:=by rw [and128_hi (by omega) (by omega)];rfl
 have c0:IntKind.u32.wrap ((p0 % 128:Nat):Int)=((p0 % 128:Nat):Int):=u32_wrap (by omega)
 obtain ⟨a0,ha0⟩:∃ a,a=p0 % 128:=⟨_,rfl⟩
 have k1:IntKind.u8.wrap (((BitVec.ofInt (kbits .u8) (p1:Int) &&& BitVec.ofInt (kbits .u8) 127).toNat:Nat):Int)=((p1 % 128:Nat):Int):=by rw [and127_u8 (by omega)];exact IntWalk.u8_in _ (by omega)
 have m1:IntKind.u8.wrap (((BitVec.ofInt (kbits .u8) (p1:Int) &&& BitVec.ofInt (kbits .u8) 128).toNat:Nat):Int)=128:=by rw [and128_hi (by omega) (by omega)];rfl
 have c1:IntKind.u32.wrap ((p1 % 128:Nat):Int)=((p1 % 128:Nat):Int):=u32_wrap (by omega)
 have s1:IntKind.u32.wrap (((p1 % 128:Nat):Int) * 2 ^ (min 7 (kbits .u32)))=(((p1 % 128) * 2 ^ 7:Nat):Int):=by
  rw [show (2:Int) ^ (min 7 (kbits .u32))=128 from rfl,show (2:Nat) ^ 7=128 from rfl,u32_wrap (by omega)];omega
 have hA1:p0 % 128 < 2 ^ 7:=by omega
 have o1:(BitVec.ofInt (kbits .u32) ((p0 % 128:Nat):Int) ||| BitVec.ofInt (kbits .u32) (((p1 % 128) * 2 ^ 7:Nat):Int)).toNat=(p1 % 128) * 2 ^ 7+p0 % 128:=or_shift (bits:=32) hA1 (by omega)
 obtain ⟨a1,ha1⟩:∃ a,a=(p1 % 128) * 2 ^ 7+p0 % 128:=⟨_,rfl⟩
 rw [← ha1] at o1
 have w1:IntKind.u32.wrap ((a1:Nat):Int)=((a1:Nat):Int):=u32_wrap (by omega)
 have k2:IntKind.u8.wrap (((BitVec.ofInt (kbits .u8) (p2:Int) &&& BitVec.ofInt (kbits .u8) 127).toNat:Nat):Int)=((p2 % 128:Nat):Int):=by rw [and127_u8 (by omega)];exact IntWalk.u8_in _ (by omega)
 have m2:IntKind.u8.wrap (((BitVec.ofInt (kbits .u8) (p2:Int) &&& BitVec.ofInt (kbits .u8) 128).toNat:Nat):Int)=128:=by rw [and128_hi (by omega) (by omega)];rfl
 have c2:IntKind.u32.wrap ((p2 % 128:Nat):Int)=((p2 % 128:Nat):Int):=u32_wrap (by omega)
 have s2:IntKind.u32.wrap (((p2 % 128:Nat):Int) * 2 ^ (min 14 (kbits .u32)))=(((p2 % 128) * 2 ^ 14:Nat):Int):=by
  rw [show (2:Int) ^ (min 14 (kbits .u32))=16384 from rfl,show (2:Nat) ^ 14=16384 from rfl,u32_wrap (by omega)];omega
 have hA2:a1 < 2 ^ 14:=by omega
 have o2:(BitVec.ofInt (kbits .u32) ((a1:Nat):Int) ||| BitVec.ofInt (kbits .u32) (((p2 % 128) * 2 ^ 14:Nat):Int)).toNat=(p2 % 128) * 2 ^ 14+a1:=or_shift (bits:=32) hA2 (by omega)
 obtain ⟨a2,ha2⟩:∃ a,a=(p2 % 128) * 2 ^ 14+a1:=⟨_,rfl⟩
 rw [← ha2] at o2
 have w2:IntKind.u32.wrap ((a2:Nat):Int)=((a2:Nat):Int):=u32_wrap (by omega)
 have k3:IntKind.u8.wrap (((BitVec.ofInt (kbits .u8) (p3:Int) &&& BitVec.ofInt (kbits .u8) 127).toNat:Nat):Int)=((p3 % 128:Nat):Int):=by rw [and127_u8 (by omega)];exact IntWalk.u8_in _ (by omega)
 have m3:IntKind.u8.wrap (((BitVec.ofInt (kbits .u8) (p3:Int) &&& BitVec.ofInt (kbits .u8) 128).toNat:Nat):Int)=128:=by rw [and128_hi (by omega) (by omega)];rfl
 have c3:IntKind.u32.wrap ((p3 % 128:Nat):Int)=((p3 % 128:Nat):Int):=u32_wrap (by omega)
 have s3:IntKind.u32.wrap (((p3 % 128:Nat):Int) * 2 ^ (min 21 (kbits .u32)))=(((p3 % 128) * 2 ^ 21:Nat):Int):=by
  rw [show (2:Int) ^ (min 21 (kbits .u32))=2097152 from rfl,show (2:Nat) ^ 21=2097152 from rfl,u32_wrap (by omega)];omega
 have hA3:a2 < 2 ^ 21:=by omega
 have o3:(BitVec.ofInt (kbits .u32) ((a2:Nat):Int) ||| BitVec.ofInt (kbits .u32) (((p3 % 128) * 2 ^ 21:Nat):Int)).toNat=(p3 % 128) * 2 ^ 21+a2:=or_shift (bits:=32) hA3 (by omega)
 obtain ⟨a3,ha3⟩:∃ a,a=(p3 % 128) * 2 ^ 21+a2:=⟨_,rfl⟩
 rw [← ha3] at o3
 have w3:IntKind.u32.wrap ((a3:Nat):Int)=((a3:Nat):Int):=u32_wrap (by omega)
 have c4:IntKind.u32.wrap (p4:Int)=(p4:Int):=u32_wrap (by omega)
 have s4:IntKind.u32.wrap ((p4:Int) * 2 ^ (min 28 (kbits .u32)))=(((p4) * 2 ^ 28:Nat):Int):=by
  rw [show (2:Int) ^ (min 28 (kbits .u32))=268435456 from rfl,show (2:Nat) ^ 28=268435456 from rfl,u32_wrap (by omega)];omega
 have hA4:a3 < 2 ^ 28:=by omega
 have o4:(BitVec.ofInt (kbits .u32) ((a3:Nat):Int) ||| BitVec.ofInt (kbits .u32) (((p4) * 2 ^ 28:Nat):Int)).toNat=(p4) * 2 ^ 28+a3:=or_shift (bits:=32) hA4 (by omega)
 obtain ⟨a4,ha4⟩:∃ a,a=(p4) * 2 ^ 28+a3:=⟨_,rfl⟩
 rw [← ha4] at o4
 have w4:IntKind.u32.wrap ((a4:Nat):Int)=((a4:Nat):Int):=u32_wrap (by omega)
 refine fn_of_W Tryd.func58 rfl Tryd.results58 Tryd.ntmps58 rfl ?_
 repeat ((first|refine qA rfl ?_|apply qB|refine qC rfl ?_|apply qD|apply qE|apply qF|apply qG|apply qH);try simp (maxSteps:=1000000)(disch:=(first|omega|(simp only [qI,qJ,qK]<;>omega)|exact qL _)) only [go_sem,↓reduceIte,n0,reduceCtorEq,n1,n2,n3,n4,n5,i0,i1,i2,i3,i4,i5,i6,i7])
 refine W.scope 0 (fun _ _=>False) (fun _ _=>0) rfl ?_ (fun _ _ h=>h.elim)
 repeat ((first|refine qA rfl ?_|apply qB|refine qC rfl ?_|apply qD|apply qE|apply qF|apply qG|apply qH|refine W.goto ?_|refine W.label ?_);try simp (maxSteps:=1000000)(disch:=(first|omega|(simp only [qI,qJ,qK]<;>omega)|exact qL _)) only [go_sem,↓reduceIte,n0,reduceCtorEq,n1,n2,n3,n4,n5,i0,i1,i2,i3,i4,i5,i6,i7,jumpQ_ret,jumpQ_normal,jumpQ_goto,q0,q1,q2,q3,q4,hx,k0,m0,c0,k1,m1,c1,s1,o1,w1,k2,m2,c2,s2,o2,w2,k3,m3,c3,s3,o3,w3,c4,s4,o4,w4])
 have hfin:(p0 % 128+128 * (p1 % 128+128 * (p2 % 128+128 * (p3 % 128+128 * p4))))=a4:=by omega
 rw [hfin]

set_option maxHeartbeats 1000000 in
theorem Uv_over {ok:Blocks} (v:Value) (b0:UInt8) (b1:UInt8) (b2:UInt8) (b3:UInt8) (b4:UInt8) (rest:List UInt8) (w:World) (h:BytesV ok w v (b0 :: b1 :: b2 :: b3 :: b4 :: rest)) (g0:¬ b0.toNat < 128) (g1:¬ b1.toNat < 128) (g2:¬ b2.toNat < 128) (g3:¬ b3.toNat < 128) (gl:¬ b4.toNat≤15):Fn Tryd.prog 58 #[v] w fun r w'=>w'=w∧r = .tuple #[.int .u32 0,.int .i64 (-5)]:=by
 obtain ⟨B,o,c,x,rfl,hc,hok,hx,hq⟩:=h.cells (by simp)
 have q0:x.1[o]? = some (.int .u8 b0.toNat):=hq 0 (by simp)
 have q1:x.1[o+1]? = some (.int .u8 b1.toNat):=hq 1 (by simp)
 have q2:x.1[o+2]? = some (.int .u8 b2.toNat):=hq 2 (by simp)
 have q3:x.1[o+3]? = some (.int .u8 b3.toNat):=hq 3 (by simp)
 have q4:x.1[o+4]? = some (.int .u8 b4.toNat):=hq 4 (by simp)
 clear hq h
 have hp0:=u8_lt b0
 generalize b0.toNat=p0 at *
 have hp1:=u8_lt b1
 generalize b1.toNat=p1 at *
 have hp2:=u8_lt b2
 generalize b2.toNat=p2 at *
 have hp3:=u8_lt b3
 generalize b3.toNat=p3 at *
 have hp4:=u8_lt b4
 generalize b4.toNat=p4 at *
 have hlt:=blk_lt hx
 have k0:IntKind.u8.wrap (((BitVec.ofInt (kbits .u8) (p0:Int) &&& BitVec.ofInt (kbits .u8) 127).toNat:Nat):Int)=((p0 % 128:Nat):Int):=by rw [and127_u8 (by omega)];exact IntWalk.u8_in _ (by omega)
 have m0:IntKind.u8.wrap (((BitVec.ofInt (kbits .u8) (p0:Int) &&& BitVec.ofInt (kbits .u8) 128).toNat:Nat):Int)=128:=by rw [and128_hi (by omega) (by omega)];rfl
 have c0:IntKind.u32.wrap ((p0 % 128:Nat):Int)=((p0 % 128:Nat):Int):=u32_wrap (by omega)
 obtain ⟨a0,ha0⟩:∃ a,a=p0 % 128:=⟨_,rfl⟩
 have k1:IntKind.u8.wrap (((BitVec.ofInt (kbits .u8) (p1:Int) &&& BitVec.ofInt (kbits .u8) 127).toNat:Nat):Int)=((p1 % 128:Nat):Int):=by rw [and127_u8 (by omega)];exact IntWalk.u8_in _ (by omega)
 have m1:IntKind.u8.wrap (((BitVec.ofInt (kbits .u8) (p1:Int) &&& BitVec.ofInt (kbits .u8) 128).toNat:Nat):Int)=128:=by rw [and128_hi (by omega) (by omega)];rfl
 have c1:IntKind.u32.wrap ((p1 % 128:Nat):Int)=((p1 % 128:Nat):Int):=u32_wrap (by omega)
 have s1:IntKind.u32.wrap (((p1 % 128:Nat):Int) * 2 ^ (min 7 (kbits .u32)))=(((p1 % 128) * 2 ^ 7:Nat):Int):=by
  rw [show (2:Int) ^ (min 7 (kbits .u32))=128 from rfl,show (2:Nat) ^ 7=128 from rfl,u32_wrap (by omega)];omega
 have hA1:p0 % 128 < 2 ^ 7:=by omega
 have o1:(BitVec.ofInt (kbits .u32) ((p0 % 128:Nat):Int) ||| BitVec.ofInt (kbits .u32) (((p1 % 128) * 2 ^ 7:Nat):Int)).toNat=(p1 % 128) * 2 ^ 7+p0 % 128:=or_shift (bits:=32) hA1 (by omega)
 obtain ⟨a1,ha1⟩:∃ a,a=(p1 % 128) * 2 ^ 7+p0 % 128:=⟨_,rfl⟩
 rw [← ha1] at o1
 have w1:IntKind.u32.wrap ((a1:Nat):Int)=((a1:Nat):Int):=u32_wrap (by omega)
 have k2:IntKind.u8.wrap (((BitVec.ofInt (kbits .u8) (p2:Int) &&& BitVec.ofInt (kbits .u8) 127).toNat:Nat):Int)=((p2 % 128:Nat):Int):=by rw [and127_u8 (by omega)];exact IntWalk.u8_in _ (by omega)
 have m2:IntKind.u8.wrap (((BitVec.ofInt (kbits .u8) (p2:Int) &&& BitVec.ofInt (kbits .u8) 128).toNat:Nat):Int)=128:=by rw [and128_hi (by omega) (by omega)];rfl
 have c2:IntKind.u32.wrap ((p2 % 128:Nat):Int)=((p2 % 128:Nat):Int):=u32_wrap (by omega)
 have s2:IntKind.u32.wrap (((p2 % 128:Nat):Int) * 2 ^ (min 14 (kbits .u32)))=(((p2 % 128) * 2 ^ 14:Nat):Int):=by
  rw [show (2:Int) ^ (min 14 (kbits .u32))=16384 from rfl,show (2:Nat) ^ 14=16384 from rfl,u32_wrap (by omega)];omega
 have hA2:a1 < 2 ^ 14:=by omega
 have o2:(BitVec.ofInt (kbits .u32) ((a1:Nat):Int) ||| BitVec.ofInt (kbits .u32) (((p2 % 128) * 2 ^ 14:Nat):Int)).toNat=(p2 % 128) * 2 ^ 14+a1:=or_shift (bits:=32) hA2 (by omega)
 obtain ⟨a2,ha2⟩:∃ a,a=(p2 % 128) * 2 ^ 14+a1:=⟨_,rfl⟩
 rw [← ha2] at o2
 have w2:IntKind.u32.wrap ((a2:Nat):Int)=((a2:Nat):Int):=u32_wrap (by omega)
 have k3:IntKind.u8.wrap (((BitVec.ofInt (kbits .u8) (p3:Int) &&& BitVec.ofInt (kbits .u8) 127).toNat:Nat):Int)=((p3 % 128:Nat):Int):=by rw [and127_u8 (by omega)];exact IntWalk.u8_in _ (by omega)
 have m3:IntKind.u8.wrap (((BitVec.ofInt (kbits .u8) (p3:Int) &&& BitVec.ofInt (kbits .u8) 128).toNat:Nat):Int)=128:=by rw [and128_hi (by omega) (by omega)];rfl
 have c3:IntKind.u32.wrap ((p3 % 128:Nat):Int)=((p3 % 128:Nat):Int):=u32_wrap (by omega)
 have s3:IntKind.u32.wrap (((p3 % 128:Nat):Int) * 2 ^ (min 21 (kbits .u32)))=(((p3 % 128) * 2 ^ 21:Nat):Int):=by
  rw [show (2:Int) ^ (min 21 (kbits .u32))=2097152 from rfl,show (2:Nat) ^ 21=2097152 from rfl,u32_wrap (by omega)];omega
 have hA3:a2 < 2 ^ 21:=by omega
 have o3:(BitVec.ofInt (kbits .u32) ((a2:Nat):Int) ||| BitVec.ofInt (kbits .u32) (((p3 % 128) * 2 ^ 21:Nat):Int)).toNat=(p3 % 128) * 2 ^ 21+a2:=or_shift (bits:=32) hA3 (by omega)
 obtain ⟨a3,ha3⟩:∃ a,a=(p3 % 128) * 2 ^ 21+a2:=⟨_,rfl⟩
 rw [← ha3] at o3
 have w3:IntKind.u32.wrap ((a3:Nat):Int)=((a3:Nat):Int):=u32_wrap (by omega)
 have c4:IntKind.u32.wrap (p4:Int)=(p4:Int):=u32_wrap (by omega)
 refine fn_of_W Tryd.func58 rfl Tryd.results58 Tryd.ntmps58 rfl ?_
 repeat ((first|refine qA rfl ?_|apply qB|refine qC rfl ?_|apply qD|apply qE|apply qF|apply qG|apply qH);try simp (maxSteps:=1000000)(disch:=(first|omega|(simp only [qI,qJ,qK]<;>omega)|exact qL _)) only [go_sem,↓reduceIte,n0,reduceCtorEq,n1,n2,n3,n4,n5,i0,i1,i2,i3,i4,i5,i6,i7])
 refine W.scope 0 (fun _ _=>False) (fun _ _=>0) rfl ?_ (fun _ _ h=>h.elim)
 repeat ((first|refine qA rfl ?_|apply qB|refine qC rfl ?_|apply qD|apply qE|apply qF|apply qG|apply qH|refine W.goto ?_|refine W.label ?_);try simp (maxSteps:=1000000)(disch:=(first|omega|(simp only [qI,qJ,qK]<;>omega)|exact qL _)) only [go_sem,↓reduceIte,n0,reduceCtorEq,n1,n2,n3,n4,n5,i0,i1,i2,i3,i4,i5,i6,i7,jumpQ_ret,jumpQ_normal,jumpQ_goto,q0,q1,q2,q3,q4,hx,k0,m0,c0,k1,m1,c1,s1,o1,w1,k2,m2,c2,s2,o2,w2,k3,m3,c3,s3,o3,w3,c4])

theorem KUvarint_fn {ok:Blocks} (v:Value) (s:List UInt8) (w:World) (h:BytesV ok w v s) :
  Fn Tryd.prog 58 #[v] w fun r w'=>w'=w∧(match uvD 4 s with|some x=>r = .tuple #[.int .u32 (x.1:Nat),.int .i64 ((s.length - x.2.length:Nat):Int)]∧x.1 < 4294967296∧x.2.length < s.length∧s.drop (s.length - x.2.length)=x.2|none=>∃ k:Int,k≤0∧r = .tuple #[.int .u32 0,.int .i64 k]):=by
 cases s with
 | nil =>
  have hu:uvD 4 ([])=none:=by simp [uvD]
  rw [hu]
  refine (Uv_out0 v  w h ).mono ?_
  rintro _ _ ⟨rfl,rfl⟩
  exact ⟨rfl,0,by decide,rfl⟩
 | cons b0 s =>
  by_cases gl:b0.toNat < 128
  ·
   have hu:uvD 4 (b0 :: s)=some (b0.toNat,s):=by simp [uvD,gl]
   rw [hu]
   refine (Uv_stop0 v b0 s w h gl).mono ?_
   rintro _ _ ⟨rfl,rfl⟩
   have hl:(b0 :: s).length - s.length=1:=by simp only [List.length_cons];omega
   exact ⟨rfl,by rw [hl];rfl,uvD_lt hu,uvD_some hu⟩
  ·have g0:=gl
   clear gl
   cases s with
   | nil =>
    have hu:uvD 4 ([b0])=none:=by simp [uvD,g0]
    rw [hu]
    refine (Uv_out1 v b0 w h g0).mono ?_
    rintro _ _ ⟨rfl,rfl⟩
    exact ⟨rfl,0,by decide,rfl⟩
   | cons b1 s =>
    by_cases gl:b1.toNat < 128
    ·
     have hu:uvD 4 (b0 :: b1 :: s)=some ((b0.toNat % 128+128 * b1.toNat),s):=by simp [uvD,g0,gl]
     rw [hu]
     refine (Uv_stop1 v b0 b1 s w h g0 gl).mono ?_
     rintro _ _ ⟨rfl,rfl⟩
     have hl:(b0 :: b1 :: s).length - s.length=2:=by simp only [List.length_cons];omega
     exact ⟨rfl,by rw [hl];rfl,uvD_lt hu,uvD_some hu⟩
    ·have g1:=gl
     clear gl
     cases s with
     | nil =>
      have hu:uvD 4 ([b0,b1])=none:=by simp [uvD,g0,g1]
      rw [hu]
      refine (Uv_out2 v b0 b1 w h g0 g1).mono ?_
      rintro _ _ ⟨rfl,rfl⟩
      exact ⟨rfl,0,by decide,rfl⟩
     | cons b2 s =>
      by_cases gl:b2.toNat < 128
      ·
       have hu:uvD 4 (b0 :: b1 :: b2 :: s)=some ((b0.toNat % 128+128 * (b1.toNat % 128+128 * b2.toNat)),s):=by simp [uvD,g0,g1,gl]
       rw [hu]
       refine (Uv_stop2 v b0 b1 b2 s w h g0 g1 gl).mono ?_
       rintro _ _ ⟨rfl,rfl⟩
       have hl:(b0 :: b1 :: b2 :: s).length - s.length=3:=by simp only [List.length_cons];omega
       exact ⟨rfl,by rw [hl];rfl,uvD_lt hu,uvD_some hu⟩
      ·have g2:=gl
       clear gl
       cases s with
       | nil =>
        have hu:uvD 4 ([b0,b1,b2])=none:=by simp [uvD,g0,g1,g2]
        rw [hu]
        refine (Uv_out3 v b0 b1 b2 w h g0 g1 g2).mono ?_
        rintro _ _ ⟨rfl,rfl⟩
        exact ⟨rfl,0,by decide,rfl⟩
       | cons b3 s =>
        by_cases gl:b3.toNat < 128
        ·
         have hu:uvD 4 (b0 :: b1 :: b2 :: b3 :: s)=some ((b0.toNat % 128+128 * (b1.toNat % 128+128 * (b2.toNat % 128+128 * b3.toNat))),s):=by simp [uvD,g0,g1,g2,gl]
         rw [hu]
         refine (Uv_stop3 v b0 b1 b2 b3 s w h g0 g1 g2 gl).mono ?_
         rintro _ _ ⟨rfl,rfl⟩
         have hl:(b0 :: b1 :: b2 :: b3 :: s).length - s.length=4:=by simp only [List.length_cons];omega
         exact ⟨rfl,by rw [hl];rfl,uvD_lt hu,uvD_some hu⟩
        ·have g3:=gl
         clear gl
         cases s with
         | nil =>
          have hu:uvD 4 ([b0,b1,b2,b3])=none:=by simp [uvD,g0,g1,g2,g3]
          rw [hu]
          refine (Uv_out4 v b0 b1 b2 b3 w h g0 g1 g2 g3).mono ?_
          rintro _ _ ⟨rfl,rfl⟩
          exact ⟨rfl,0,by decide,rfl⟩
         | cons b4 s =>
          by_cases gl:b4.toNat≤15
          ·
           have hu:uvD 4 (b0 :: b1 :: b2 :: b3 :: b4 :: s)=some ((b0.toNat % 128+128 * (b1.toNat % 128+128 * (b2.toNat % 128+128 * (b3.toNat % 128+128 * b4.toNat)))),s):=by simp [uvD,g0,g1,g2,g3,gl]
           rw [hu]
           refine (Uv_stop4 v b0 b1 b2 b3 b4 s w h g0 g1 g2 g3 gl).mono ?_
           rintro _ _ ⟨rfl,rfl⟩
           have hl:(b0 :: b1 :: b2 :: b3 :: b4 :: s).length - s.length=5:=by simp only [List.length_cons];omega
           exact ⟨rfl,by rw [hl];rfl,uvD_lt hu,uvD_some hu⟩
          ·
           have hu:uvD 4 (b0 :: b1 :: b2 :: b3 :: b4 :: s)=none:=by simp [uvD,g0,g1,g2,g3,gl]
           rw [hu]
           refine (Uv_over v b0 b1 b2 b3 b4 s w h g0 g1 g2 g3 gl).mono ?_
           rintro _ _ ⟨rfl,rfl⟩
           exact ⟨rfl,-5,by decide,rfl⟩

abbrev RT : TypeId:=69
def GloBE (w:World):Prop:=∃ x,blk w 0=some x
theorem GloBE.upd {w w':World} {rb:Nat} (h:GloBE w) (u:Upd (fun b=>b=rb) w w') (hr:¬ 0=rb):GloBE w':=by
 obtain ⟨x,h⟩:=h;exact ⟨x,u.blk_some h hr⟩
theorem GloBE.ext {w w':World} (h:GloBE w) (u:Ext w w'):GloBE w':=by
 obtain ⟨x,h⟩:=h;exact ⟨x,u.blk_some h id⟩

theorem Int32_fn {ok:Blocks} {rb:Nat} {st:St} (w:World) (h:Rdr RT ok w rb st) (hr:¬ ok rb) (hg:GloBE w) (hrg:¬ 0=rb) :
  Fn Tryd.prog 23 #[.pointer (some ⟨rb,0,none⟩)] w (RdQ RT ok rb w (.int .i32 (rdInt .i32 4 st).1) (rdInt .i32 4 st).2):=by
 obtain ⟨v,hb,hB,hn⟩:=h.ex
 obtain ⟨a,c,rfl,hc⟩:=hB.shape
 have hbl:=blk_lt hb
 by_cases hf:stLen st < 4
 ·have hf2:(st.getD []).length < 4:=hf
  rw [rdInt,rdN_few hf]
  refine fn_of_W Tryd.func23 rfl Tryd.results23 Tryd.ntmps23 rfl ?_
  repeat ((first|refine qA rfl ?_|apply qB|refine qC rfl ?_|apply qD|apply qE|apply qF|apply qG|apply qH);try simp (maxSteps:=1000000)(disch:=(first|omega|(simp only [qI,qJ,qK]<;>omega)|exact qL _)) only [go_sem,↓reduceIte,n0,reduceCtorEq,n1,n2,n3,n4,n5,i0,i1,i2,i3,i4,i5,i6,i7,hb])
  exact RdQ.bad hb
 ·obtain ⟨s,rfl,hs⟩:=st_some hf
  simp only [Option.getD_some,isNone_some_st] at hb hB hc
  rw [rdInt,rdN_some hs]
  simp only [Option.getD_some]
  obtain ⟨xg,hg⟩:=hg
  have hgl:=blk_lt hg
  have hz:xg.1.extract 0 0=#[]:=by simp
  refine fn_of_W Tryd.func23 rfl Tryd.results23 Tryd.ntmps23 rfl ?_
  repeat ((first|refine qA rfl ?_|apply qB|refine qC rfl ?_|apply qD|apply qE|apply qF|apply qG|apply qH);try simp (maxSteps:=1000000)(disch:=(first|omega|(simp only [qI,qJ,qK]<;>omega)|exact qL _)) only [go_sem,↓reduceIte,n0,reduceCtorEq,n1,n2,n3,n4,n5,i0,i1,i2,i3,i4,i5,i6,i7,hb,hg,hz])
  refine W.drawR (.take 0 (.take 1 (.take 2 (.take 3 (.take 4 (.only 5 (.take 6 (.only 7 .done)))))))) NoB mixed (by kernel_rfl) ?_
  simp (maxSteps:=1000000)(disch:=(first|omega|(simp only [qI,qJ,qK]<;>omega)|exact qL _)) only [go_sem,↓reduceIte,n0,reduceCtorEq,n1,n2,n3,n4,n5,i0,i1,i2,i3,i4,i5,i6,i7,hb,hg,hz]
  have hEd:Ext w w.drew:=(Upd.refl _ _).drew
  refine (BE32_fn (ok:=ok) _ s w.drew (hB.keep (hEd.keeps _)) hs).mono ?_
  rintro r5 w1 ⟨rfl,hE1⟩
  have hE:=hEd.trans hE1
  have hb1:=hE.blk_some hb id
  refine ⟨hE1,?_⟩
  simp (maxSteps:=1000000)(disch:=(first|omega|(simp only [qI,qJ,qK]<;>omega)|exact qL _)) only [go_sem,↓reduceIte,n0,reduceCtorEq,n1,n2,n3,n4,n5,i0,i1,i2,i3,i4,i5,i6,i7,hb1]
  refine ⟨hE1,?_⟩
  repeat ((first|refine qA rfl ?_|apply qB|refine qC rfl ?_|apply qD|apply qE|apply qF|apply qG|apply qH);try simp (maxSteps:=1000000)(disch:=(first|omega|(simp only [qI,qJ,qK]<;>omega)|exact qL _)) only [go_sem,↓reduceIte,n0,reduceCtorEq,n1,n2,n3,n4,n5,i0,i1,i2,i3,i4,i5,i6,i7,hb1])
  exact RdQ.good hE hb hB hr hs (by omega)

theorem readUint64_fn {ok:Blocks} {rb:Nat} {st:St} (w:World) (h:Rdr RT ok w rb st) (hr:¬ ok rb) (hg:GloBE w) (hrg:¬ 0=rb) :
  Fn Tryd.prog 44 #[.pointer (some ⟨rb,0,none⟩)] w (RdQ RT ok rb w (.int .u64 (rdInt .u64 8 st).1) (rdInt .u64 8 st).2):=by
 obtain ⟨v,hb,hB,hn⟩:=h.ex
 obtain ⟨a,c,rfl,hc⟩:=hB.shape
 have hbl:=blk_lt hb
 by_cases hf:stLen st < 8
 ·have hf2:(st.getD []).length < 8:=hf
  rw [rdInt,rdN_few hf]
  refine fn_of_W Tryd.func44 rfl Tryd.results44 Tryd.ntmps44 rfl ?_
  repeat ((first|refine qA rfl ?_|apply qB|refine qC rfl ?_|apply qD|apply qE|apply qF|apply qG|apply qH);try simp (maxSteps:=1000000)(disch:=(first|omega|(simp only [qI,qJ,qK]<;>omega)|exact qL _)) only [go_sem,↓reduceIte,n0,reduceCtorEq,n1,n2,n3,n4,n5,i0,i1,i2,i3,i4,i5,i6,i7,hb])
  exact RdQ.bad hb
 ·obtain ⟨s,rfl,hs⟩:=st_some hf
  simp only [Option.getD_some,isNone_some_st] at hb hB hc
  rw [rdInt,rdN_some hs]
  simp only [Option.getD_some]
  obtain ⟨xg,hg⟩:=hg
  have hgl:=blk_lt hg
  have hz:xg.1.extract 0 0=#[]:=by simp
  refine fn_of_W Tryd.func44 rfl Tryd.results44 Tryd.ntmps44 rfl ?_
  repeat ((first|refine qA rfl ?_|apply qB|refine qC rfl ?_|apply qD|apply qE|apply qF|apply qG|apply qH);try simp (maxSteps:=1000000)(disch:=(first|omega|(simp only [qI,qJ,qK]<;>omega)|exact qL _)) only [go_sem,↓reduceIte,n0,reduceCtorEq,n1,n2,n3,n4,n5,i0,i1,i2,i3,i4,i5,i6,i7,hb,hg,hz])
  refine W.drawR (.take 0 (.take 1 (.take 2 (.take 3 (.take 4 (.only 5 (.only 6 .done))))))) NoB mixed (by kernel_rfl) ?_
  simp (maxSteps:=1000000)(disch:=(first|omega|(simp only [qI,qJ,qK]<;>omega)|exact qL _)) only [go_sem,↓reduceIte,n0,reduceCtorEq,n1,n2,n3,n4,n5,i0,i1,i2,i3,i4,i5,i6,i7,hb,hg,hz]
  have hEd:Ext w w.drew:=(Upd.refl _ _).drew
  refine (BE64_fn (ok:=ok) _ s w.drew (hB.keep (hEd.keeps _)) hs).mono ?_
  rintro r5 w1 ⟨rfl,hE1⟩
  have hE:=hEd.trans hE1
  have hb1:=hE.blk_some hb id
  refine ⟨hE1,?_⟩
  have hw:IntKind.u64.wrap ((beN (s.take 8):Nat):Int)=(beN (s.take 8):Nat):=by
   have:=beN_take_lt s 8
   unfold IntKind.wrap;simp [IntKind.bits,IntKind.signed];omega
  rw [hw]
  refine ⟨hE1,?_⟩
  repeat ((first|refine qA rfl ?_|apply qB|refine qC rfl ?_|apply qD|apply qE|apply qF|apply qG|apply qH);try simp (maxSteps:=1000000)(disch:=(first|omega|(simp only [qI,qJ,qK]<;>omega)|exact qL _)) only [go_sem,↓reduceIte,n0,reduceCtorEq,n1,n2,n3,n4,n5,i0,i1,i2,i3,i4,i5,i6,i7,hb1])
  exact RdQ.good hE hb hB hr hs (by omega)

theorem Int64_fn {ok:Blocks} {rb:Nat} {st:St} (w:World) (h:Rdr RT ok w rb st) (hr:¬ ok rb) (hg:GloBE w) (hrg:¬ 0=rb) :
  Fn Tryd.prog 24 #[.pointer (some ⟨rb,0,none⟩)] w (RdQ RT ok rb w (.int .i64 (rdInt .i64 8 st).1) (rdInt .i64 8 st).2):=by
 refine fn_of_W Tryd.func24 rfl Tryd.results24 Tryd.ntmps24 rfl ?_
 repeat ((first|refine qA rfl ?_|apply qB|refine qC rfl ?_|apply qD|apply qE|apply qF|apply qG|apply qH);try simp (maxSteps:=1000000)(disch:=(first|omega|(simp only [qI,qJ,qK]<;>omega)|exact qL _)) only [go_sem,↓reduceIte,n0,reduceCtorEq,n1,n2,n3,n4,n5,i0,i1,i2,i3,i4,i5,i6,i7])
 refine (readUint64_fn w h hr hg hrg).mono ?_
 rintro _ w1 ⟨rfl,h1,hu⟩
 have hw:IntKind.i64.wrap (rdInt .u64 8 st).1=(rdInt .i64 8 st).1:=by
  unfold rdInt IntKind.wrap;simp [IntKind.bits,IntKind.signed]
 repeat ((first|refine qA rfl ?_|apply qB|refine qC rfl ?_|apply qD|apply qE|apply qF|apply qG|apply qH);try simp (maxSteps:=1000000)(disch:=(first|omega|(simp only [qI,qJ,qK]<;>omega)|exact qL _)) only [go_sem,↓reduceIte,n0,reduceCtorEq,n1,n2,n3,n4,n5,i0,i1,i2,i3,i4,i5,i6,i7,hw])
 exact ⟨rfl,h1,hu⟩

theorem Int8_fn {ok:Blocks} {rb:Nat} {st:St} (w:World) (h:Rdr RT ok w rb st) (hr:¬ ok rb) :
  Fn Tryd.prog 38 #[.pointer (some ⟨rb,0,none⟩)] w (RdQ RT ok rb w (.int .i8 (rdInt .i8 1 st).1) (rdInt .i8 1 st).2):=by
 obtain ⟨v,hb,hB,hn⟩:=h.ex
 obtain ⟨a,c,rfl,hc⟩:=hB.shape
 have hbl:=blk_lt hb
 by_cases hf:stLen st < 1
 ·have hf2:(st.getD []).length < 1:=hf
  rw [rdInt,rdN_few hf]
  refine fn_of_W Tryd.func38 rfl Tryd.results38 Tryd.ntmps38 rfl ?_
  repeat ((first|refine qA rfl ?_|apply qB|refine qC rfl ?_|apply qD|apply qE|apply qF|apply qG|apply qH);try simp (maxSteps:=1000000)(disch:=(first|omega|(simp only [qI,qJ,qK]<;>omega)|exact qL _)) only [go_sem,↓reduceIte,n0,reduceCtorEq,n1,n2,n3,n4,n5,i0,i1,i2,i3,i4,i5,i6,i7,hb])
  exact RdQ.bad hb
 ·obtain ⟨s,rfl,hs⟩:=st_some hf
  simp only [Option.getD_some,isNone_some_st] at hb hB hc
  rw [rdInt,rdN_some hs]
  obtain ⟨B,o,c',x,hv,hc',hok,hx,hq⟩:=hB.cells (by intro h0;rw [h0] at hs;simp at hs)
  cases hv
  have q0:=hq 0 (by omega)
  rw [Nat.add_zero] at q0
  have hbe:beN (s.take 1)=s[0].toNat:=by
   cases s with
   | nil=>simp at hs
   | cons b s=>simp [beN]
  simp only [hbe]
  have hlt:=blk_lt hx
  have hp:=u8_lt s[0]
  generalize s[0].toNat=p at *
  refine fn_of_W Tryd.func38 rfl Tryd.results38 Tryd.ntmps38 rfl ?_
  repeat ((first|refine qA rfl ?_|apply qB|refine qC rfl ?_|apply qD|apply qE|apply qF|apply qG|apply qH);try simp (maxSteps:=1000000)(disch:=(first|omega|(simp only [qI,qJ,qK]<;>omega)|exact qL _)) only [go_sem,↓reduceIte,n0,reduceCtorEq,n1,n2,n3,n4,n5,i0,i1,i2,i3,i4,i5,i6,i7,hb,hx,q0])
  exact RdQ.good (Upd.refl _ _) hb hB hr hs (by omega)

theorem Span_fn {ok:Blocks} {rb:Nat} {st:St} (w:World) (h:Rdr RT ok w rb st) (hr:¬ ok rb) (l:Int) :
  Fn Tryd.prog 47 #[.pointer (some ⟨rb,0,none⟩),.int .i64 l] w (SpanQ RT ok rb w st (rdSpan l st).2 l (rdSpan l st).1):=by
 obtain ⟨v,hb,hB,hn⟩:=h.ex
 obtain ⟨a,c,rfl,hc⟩:=hB.shape
 have hbl:=blk_lt hb
 by_cases hf:l < 0∨(stLen st:Int) < l
 ·rw [rdSpan_bad hf]
  by_cases hl:(stLen st:Int) < l
  ·have hl2:((st.getD []).length:Int) < l:=hl
   refine fn_of_W Tryd.func47 rfl Tryd.results47 Tryd.ntmps47 rfl ?_
   repeat ((first|refine qA rfl ?_|apply qB|refine qC rfl ?_|apply qD|apply qE|apply qF|apply qG|apply qH);try simp (maxSteps:=1000000)(disch:=(first|omega|(simp only [qI,qJ,qK]<;>omega)|exact qL _)) only [go_sem,↓reduceIte,n0,reduceCtorEq,n1,n2,n3,n4,n5,i0,i1,i2,i3,i4,i5,i6,i7,hb])
   exact SpanQ.bad hb
  ·have hl2:¬ ((st.getD []).length:Int) < l:=hl
   have hl3:l < 0:=hf.resolve_right hl
   refine fn_of_W Tryd.func47 rfl Tryd.results47 Tryd.ntmps47 rfl ?_
   repeat ((first|refine qA rfl ?_|apply qB|refine qC rfl ?_|apply qD|apply qE|apply qF|apply qG|apply qH);try simp (maxSteps:=1000000)(disch:=(first|omega|(simp only [qI,qJ,qK]<;>omega)|exact qL _)) only [go_sem,↓reduceIte,n0,reduceCtorEq,n1,n2,n3,n4,n5,i0,i1,i2,i3,i4,i5,i6,i7,hb])
   exact SpanQ.bad hb
 ·have hl1:0≤l:=by omega
  have hl2:l≤((st.getD []).length:Int):=by have:(st.getD []).length=stLen st:=rfl;omega
  obtain ⟨k,rfl⟩:∃ k:Nat,l=k:=⟨l.toNat,by omega⟩
  have hk:k≤(st.getD []).length:=by omega
  have hl3:¬ ((st.getD []).length:Int) < (k:Int):=by omega
  have hl4:¬ (k:Int) < 0:=by omega
  have hk2:k≤c:=by omega
  cases st with
  | none =>
   have:=hn rfl
   cases this
   have hk0:k=0:=by simpa using hk
   subst hk0
   refine fn_of_W Tryd.func47 rfl Tryd.results47 Tryd.ntmps47 rfl ?_
   repeat ((first|refine qA rfl ?_|apply qB|refine qC rfl ?_|apply qD|apply qE|apply qF|apply qG|apply qH);try simp (maxSteps:=1000000)(disch:=(first|omega|(simp only [qI,qJ,qK]<;>omega)|exact qL _)) only [go_sem,↓reduceIte,n0,reduceCtorEq,n1,n2,n3,n4,n5,i0,i1,i2,i3,i4,i5,i6,i7,hb,Int.toNat_natCast])
   exact SpanQ.zero hb
  | some s =>
   simp only [Option.getD_some,isNone_some_st] at hb hB hc hk hl2 hl3
   rw [rdSpan_good hk]
   refine fn_of_W Tryd.func47 rfl Tryd.results47 Tryd.ntmps47 rfl ?_
   repeat ((first|refine qA rfl ?_|apply qB|refine qC rfl ?_|apply qD|apply qE|apply qF|apply qG|apply qH);try simp (maxSteps:=1000000)(disch:=(first|omega|(simp only [qI,qJ,qK]<;>omega)|exact qL _)) only [go_sem,↓reduceIte,n0,reduceCtorEq,n1,n2,n3,n4,n5,i0,i1,i2,i3,i4,i5,i6,i7,hb,Int.toNat_natCast,Nat.sub_zero])
   exact SpanQ.good hb hB hr hk

theorem rdUv_of {s:List UInt8}:rdUv (some s)=match uvD 4 s with|some x=>(x.1,some x.2)|none=>(0,none):=rfl
theorem RUvarint_fn {ok:Blocks} {rb:Nat} {st:St} (w:World) (h:Rdr RT ok w rb st) (hr:¬ ok rb) :
  Fn Tryd.prog 45 #[.pointer (some ⟨rb,0,none⟩)] w (RdQ RT ok rb w (.int .u32 (rdUv st).1) (rdUv st).2):=by
 obtain ⟨v,hb,hB,hn⟩:=h.ex
 obtain ⟨a,c,rfl,hc⟩:=hB.shape
 have hbl:=blk_lt hb
 refine fn_of_W Tryd.func45 rfl Tryd.results45 Tryd.ntmps45 rfl ?_
 repeat ((first|refine qA rfl ?_|apply qB|refine qC rfl ?_|apply qD|apply qE|apply qF|apply qG|apply qH);try simp (maxSteps:=1000000)(disch:=(first|omega|(simp only [qI,qJ,qK]<;>omega)|exact qL _)) only [go_sem,↓reduceIte,n0,reduceCtorEq,n1,n2,n3,n4,n5,i0,i1,i2,i3,i4,i5,i6,i7,hb])
 refine (KUvarint_fn (ok:=ok) _ (st.getD []) w hB).mono ?_
 rintro r1 w1 ⟨rfl,hr1⟩
 cases hu:uvD 4 (st.getD []) with
 | none =>
  rw [hu] at hr1
  obtain ⟨k,hk,rfl⟩:=hr1
  have hst:rdUv st=(0,none):=by
   cases st with
   | none=>rfl
   | some s=>rw [rdUv_of];simp only [Option.getD_some] at hu;rw [hu]
  rw [hst]
  repeat ((first|refine qA rfl ?_|apply qB|refine qC rfl ?_|apply qD|apply qE|apply qF|apply qG|apply qH);try simp (maxSteps:=1000000)(disch:=(first|omega|(simp only [qI,qJ,qK]<;>omega)|exact qL _)) only [go_sem,↓reduceIte,n0,reduceCtorEq,n1,n2,n3,n4,n5,i0,i1,i2,i3,i4,i5,i6,i7,hb])
  exact RdQ.bad hb
 | some x =>
  rw [hu] at hr1
  obtain ⟨rfl,h3,h4a,h4b⟩:=hr1
  cases st with
  | none=>simp [uvD] at hu
  | some s =>
   simp only [Option.getD_some,isNone_some_st] at hb hB hc hu h4a h4b ⊢
   rw [rdUv_of,hu]
   have h5:¬ ((s.length - x.2.length:Nat):Int)≤0:=by omega
   have h6:=RdQ.good (val:=.int .u32 x.1) (k:=s.length - x.2.length) (Upd.refl _ _:Ext w1 w1) hb hB hr (by omega) (by omega)
   rw [h4b] at h6
   repeat ((first|refine qA rfl ?_|apply qB|refine qC rfl ?_|apply qD|apply qE|apply qF|apply qG|apply qH);try simp (maxSteps:=1000000)(disch:=(first|omega|(simp only [qI,qJ,qK]<;>omega)|exact qL _)) only [go_sem,↓reduceIte,n0,reduceCtorEq,n1,n2,n3,n4,n5,i0,i1,i2,i3,i4,i5,i6,i7,hb,h5,Int.toNat_natCast,List.getElem_toArray,List.getElem_cons_succ,List.getElem_cons_zero])
   exact h6


theorem UStr_fn {ok:Blocks} (v:Value) (s:List UInt8) (w:World) (h:BytesV ok w v s):Fn Tryd.prog 46 #[v] w fun r w'=>r=strV s∧w'=w:=by
 obtain ⟨a,c,rfl,hc⟩:=h.shape
 refine fn_of_W Tryd.func46 rfl Tryd.results46 Tryd.ntmps46 rfl ?_
 repeat ((first|refine qA rfl ?_|apply qB|refine qC rfl ?_|apply qD|apply qE|apply qF|apply qG|apply qH);try simp (maxSteps:=1000000)(disch:=(first|omega|(simp only [qI,qJ,qK]<;>omega)|exact qL _)) only [go_sem,↓reduceIte,n0,reduceCtorEq,n1,n2,n3,n4,n5,i0,i1,i2,i3,i4,i5,i6,i7])
 refine wp_string (S:=22) (T:=9) (E:=5) (s:=s) (ok:=ok) (by kernel_rfl) (by kernel_rfl) (by kernel_rfl) (by (try simp (maxSteps:=1000000)(disch:=(first|omega|(simp only [qI,qJ,qK]<;>omega)|exact qL _)) only [go_sem,↓reduceIte,n0,reduceCtorEq,n1,n2,n3,n4,n5,i0,i1,i2,i3,i4,i5,i6,i7]);exact h) ?_
 simp (maxSteps:=1000000)(disch:=(first|omega|(simp only [qI,qJ,qK]<;>omega)|exact qL _)) only [go_sem,↓reduceIte,n0,reduceCtorEq,n1,n2,n3,n4,n5,i0,i1,i2,i3,i4,i5,i6,i7]
 repeat ((first|refine qA rfl ?_|apply qB|refine qC rfl ?_|apply qD|apply qE|apply qF|apply qG|apply qH);try simp (maxSteps:=1000000)(disch:=(first|omega|(simp only [qI,qJ,qK]<;>omega)|exact qL _)) only [go_sem,↓reduceIte,n0,reduceCtorEq,n1,n2,n3,n4,n5,i0,i1,i2,i3,i4,i5,i6,i7])

theorem RCompactString_fn {ok:Blocks} {rb:Nat} {st:St} (w:World) (h:Rdr RT ok w rb st) (hr:¬ ok rb) (hg:GloBE w) (hrg:¬ 0=rb) :
  Fn Tryd.prog 32 #[.pointer (some ⟨rb,0,none⟩)] w (RdQ RT ok rb w (strV (rdStr true st).1) (rdStr true st).2):=by
 rw [rdStr_t]
 refine fn_of_W Tryd.func32 rfl Tryd.results32 Tryd.ntmps32 rfl ?_
 repeat ((first|refine qA rfl ?_|apply qB|refine qC rfl ?_|apply qD|apply qE|apply qF|apply qG|apply qH);try simp (maxSteps:=1000000)(disch:=(first|omega|(simp only [qI,qJ,qK]<;>omega)|exact qL _)) only [go_sem,↓reduceIte,n0,reduceCtorEq,n1,n2,n3,n4,n5,i0,i1,i2,i3,i4,i5,i6,i7])
 refine (RUvarint_fn w h hr).mono ?_
 rintro _ w1 ⟨rfl,h1,hu1⟩
 have ew:=rdUv_64 st
 have ew1:=rdUv_641 st
 repeat ((first|refine qA rfl ?_|apply qB|refine qC rfl ?_|apply qD|apply qE|apply qF|apply qG|apply qH);try simp (maxSteps:=1000000)(disch:=(first|omega|(simp only [qI,qJ,qK]<;>omega)|exact qL _)) only [go_sem,↓reduceIte,n0,reduceCtorEq,n1,n2,n3,n4,n5,i0,i1,i2,i3,i4,i5,i6,i7,ew,ew1])
 refine (Span_fn w1 h1.1 hr _).mono ?_
 rintro r2 w2 ⟨hB2,_,_,h2,hn2,hu2⟩
 obtain ⟨a2,c2,rfl,hc2⟩:=hB2.shape
 try simp (maxSteps:=1000000)(disch:=(first|omega|(simp only [qI,qJ,qK]<;>omega)|exact qL _)) only [go_sem,↓reduceIte,n0,reduceCtorEq,n1,n2,n3,n4,n5,i0,i1,i2,i3,i4,i5,i6,i7]
 refine wp_string (S:=22) (T:=9) (E:=5) (s:=_) (ok:=ok) (by kernel_rfl) (by kernel_rfl) (by kernel_rfl) (by (try simp (maxSteps:=1000000)(disch:=(first|omega|(simp only [qI,qJ,qK]<;>omega)|exact qL _)) only [go_sem,↓reduceIte,n0,reduceCtorEq,n1,n2,n3,n4,n5,i0,i1,i2,i3,i4,i5,i6,i7]);exact hB2) ?_
 simp (maxSteps:=1000000)(disch:=(first|omega|(simp only [qI,qJ,qK]<;>omega)|exact qL _)) only [go_sem,↓reduceIte,n0,reduceCtorEq,n1,n2,n3,n4,n5,i0,i1,i2,i3,i4,i5,i6,i7]
 repeat ((first|refine qA rfl ?_|apply qB|refine qC rfl ?_|apply qD|apply qE|apply qF|apply qG|apply qH);try simp (maxSteps:=1000000)(disch:=(first|omega|(simp only [qI,qJ,qK]<;>omega)|exact qL _)) only [go_sem,↓reduceIte,n0,reduceCtorEq,n1,n2,n3,n4,n5,i0,i1,i2,i3,i4,i5,i6,i7])
 exact ⟨rfl,⟨h2,hn2 (.inl h1.2)⟩,hu1.trans hu2⟩

theorem RUnsafeCompactString_fn {ok:Blocks} {rb:Nat} {st:St} (w:World) (h:Rdr RT ok w rb st) (hr:¬ ok rb) (hg:GloBE w) (hrg:¬ 0=rb) :
  Fn Tryd.prog 30 #[.pointer (some ⟨rb,0,none⟩)] w (RdQ RT ok rb w (strV (rdStr true st).1) (rdStr true st).2):=by
 rw [rdStr_t]
 refine fn_of_W Tryd.func30 rfl Tryd.results30 Tryd.ntmps30 rfl ?_
 repeat ((first|refine qA rfl ?_|apply qB|refine qC rfl ?_|apply qD|apply qE|apply qF|apply qG|apply qH);try simp (maxSteps:=1000000)(disch:=(first|omega|(simp only [qI,qJ,qK]<;>omega)|exact qL _)) only [go_sem,↓reduceIte,n0,reduceCtorEq,n1,n2,n3,n4,n5,i0,i1,i2,i3,i4,i5,i6,i7])
 refine (RUvarint_fn w h hr).mono ?_
 rintro _ w1 ⟨rfl,h1,hu1⟩
 have ew:=rdUv_64 st
 have ew1:=rdUv_641 st
 repeat ((first|refine qA rfl ?_|apply qB|refine qC rfl ?_|apply qD|apply qE|apply qF|apply qG|apply qH);try simp (maxSteps:=1000000)(disch:=(first|omega|(simp only [qI,qJ,qK]<;>omega)|exact qL _)) only [go_sem,↓reduceIte,n0,reduceCtorEq,n1,n2,n3,n4,n5,i0,i1,i2,i3,i4,i5,i6,i7,ew,ew1])
 refine (Span_fn w1 h1.1 hr _).mono ?_
 rintro r2 w2 ⟨hB2,_,_,h2,hn2,hu2⟩
 obtain ⟨a2,c2,rfl,hc2⟩:=hB2.shape
 try simp (maxSteps:=1000000)(disch:=(first|omega|(simp only [qI,qJ,qK]<;>omega)|exact qL _)) only [go_sem,↓reduceIte,n0,reduceCtorEq,n1,n2,n3,n4,n5,i0,i1,i2,i3,i4,i5,i6,i7]
 refine (UStr_fn (ok:=ok) _ _ w2 hB2).mono ?_
 rintro _ w3 ⟨rfl,rfl⟩
 repeat ((first|refine qA rfl ?_|apply qB|refine qC rfl ?_|apply qD|apply qE|apply qF|apply qG|apply qH);try simp (maxSteps:=1000000)(disch:=(first|omega|(simp only [qI,qJ,qK]<;>omega)|exact qL _)) only [go_sem,↓reduceIte,n0,reduceCtorEq,n1,n2,n3,n4,n5,i0,i1,i2,i3,i4,i5,i6,i7])
 exact ⟨rfl,⟨h2,hn2 (.inl h1.2)⟩,hu1.trans hu2⟩

theorem RCompactArrayLen_fn {ok:Blocks} {rb:Nat} {st:St} (w:World) (h:Rdr RT ok w rb st) (hr:¬ ok rb) (hg:GloBE w) (hrg:¬ 0=rb) :
  Fn Tryd.prog 25 #[.pointer (some ⟨rb,0,none⟩)] w (RdQ RT ok rb w (.int .i32 (rdALen true st).1) (rdALen true st).2):=by
 unfold rdALen
 rw [rdCnt_t]
 refine fn_of_W Tryd.func25 rfl Tryd.results25 Tryd.ntmps25 rfl ?_
 repeat ((first|refine qA rfl ?_|apply qB|refine qC rfl ?_|apply qD|apply qE|apply qF|apply qG|apply qH);try simp (maxSteps:=1000000)(disch:=(first|omega|(simp only [qI,qJ,qK]<;>omega)|exact qL _)) only [go_sem,↓reduceIte,n0,reduceCtorEq,n1,n2,n3,n4,n5,i0,i1,i2,i3,i4,i5,i6,i7])
 refine (RUvarint_fn w h hr).mono ?_
 rintro _ w1 ⟨rfl,h1,hu1⟩
 have ew:=i32w_64 (IntKind.i32.wrap ((rdUv st).1:Int) - 1)
 obtain ⟨v1,hb1,hB1,hm1⟩:=h1.1.ex
 obtain ⟨a1,c1,rfl,hc1⟩:=hB1.shape
 have hlen:((rdUv st).2.getD []).length=stLen (rdUv st).2:=rfl
 by_cases hl:(stLen (rdUv st).2:Int) < IntKind.i32.wrap (IntKind.i32.wrap ((rdUv st).1:Int) - 1)
 ·have hl2:(((rdUv st).2.getD []).length:Int) < IntKind.i32.wrap (IntKind.i32.wrap ((rdUv st).1:Int) - 1):=hl
  simp only [if_pos hl]
  repeat ((first|refine qA rfl ?_|apply qB|refine qC rfl ?_|apply qD|apply qE|apply qF|apply qG|apply qH);try simp (maxSteps:=1000000)(disch:=(first|omega|(simp only [qI,qJ,qK]<;>omega)|exact qL _)) only [go_sem,↓reduceIte,n0,reduceCtorEq,n1,n2,n3,n4,n5,i0,i1,i2,i3,i4,i5,i6,i7,hb1,ew,hl2])
  exact RdQ.then hu1 (RdQ.bad hb1)
 ·have hl2:¬ (((rdUv st).2.getD []).length:Int) < IntKind.i32.wrap (IntKind.i32.wrap ((rdUv st).1:Int) - 1):=hl
  simp only [if_neg hl]
  repeat ((first|refine qA rfl ?_|apply qB|refine qC rfl ?_|apply qD|apply qE|apply qF|apply qG|apply qH);try simp (maxSteps:=1000000)(disch:=(first|omega|(simp only [qI,qJ,qK]<;>omega)|exact qL _)) only [go_sem,↓reduceIte,n0,reduceCtorEq,n1,n2,n3,n4,n5,i0,i1,i2,i3,i4,i5,i6,i7,hb1,ew,hl2])
  exact ⟨rfl,h1,hu1⟩

theorem RUuid_fn {ok:Blocks} {rb:Nat} {st:St} (w:World) (h:Rdr RT ok w rb st) (hr:¬ ok rb) :
  Fn Tryd.prog 34 #[.pointer (some ⟨rb,0,none⟩)] w (RdQ RT ok rb w (.agg ((uuidS (rdSpan 16 st).1).map byteV).toArray) (rdSpan 16 st).2):=by
 have hrl:=h.lt
 have hE1:Ext w ((w.alloc (.cells #[.int .u8 0,.int .u8 0,.int .u8 0,.int .u8 0,.int .u8 0,.int .u8 0,.int .u8 0,.int .u8 0,.int .u8 0,.int .u8 0,.int .u8 0,.int .u8 0,.int .u8 0,.int .u8 0,.int .u8 0,.int .u8 0] 61)).alloc (.cells #[.int .u8 0,.int .u8 0,.int .u8 0,.int .u8 0,.int .u8 0,.int .u8 0,.int .u8 0,.int .u8 0,.int .u8 0,.int .u8 0,.int .u8 0,.int .u8 0,.int .u8 0,.int .u8 0,.int .u8 0,.int .u8 0] 61)):=Upd.alloc (Upd.alloc (Upd.refl _ _) _) _
 have hb2:blk ((w.alloc (.cells #[.int .u8 0,.int .u8 0,.int .u8 0,.int .u8 0,.int .u8 0,.int .u8 0,.int .u8 0,.int .u8 0,.int .u8 0,.int .u8 0,.int .u8 0,.int .u8 0,.int .u8 0,.int .u8 0,.int .u8 0,.int .u8 0] 61)).alloc (.cells #[.int .u8 0,.int .u8 0,.int .u8 0,.int .u8 0,.int .u8 0,.int .u8 0,.int .u8 0,.int .u8 0,.int .u8 0,.int .u8 0,.int .u8 0,.int .u8 0,.int .u8 0,.int .u8 0,.int .u8 0,.int .u8 0] 61)) w.heap.size=some (#[.int .u8 0,.int .u8 0,.int .u8 0,.int .u8 0,.int .u8 0,.int .u8 0,.int .u8 0,.int .u8 0,.int .u8 0,.int .u8 0,.int .u8 0,.int .u8 0,.int .u8 0,.int .u8 0,.int .u8 0,.int .u8 0],61,(0,0)):=by simp (maxSteps:=1000000)(disch:=(first|omega|(simp only [qI,qJ,qK]<;>omega)|exact qL _)) only [go_sem,↓reduceIte,n0,reduceCtorEq,n1,n2,n3,n4,n5,i0,i1,i2,i3,i4,i5,i6,i7]
 have hb3:blk ((w.alloc (.cells #[.int .u8 0,.int .u8 0,.int .u8 0,.int .u8 0,.int .u8 0,.int .u8 0,.int .u8 0,.int .u8 0,.int .u8 0,.int .u8 0,.int .u8 0,.int .u8 0,.int .u8 0,.int .u8 0,.int .u8 0,.int .u8 0] 61)).alloc (.cells #[.int .u8 0,.int .u8 0,.int .u8 0,.int .u8 0,.int .u8 0,.int .u8 0,.int .u8 0,.int .u8 0,.int .u8 0,.int .u8 0,.int .u8 0,.int .u8 0,.int .u8 0,.int .u8 0,.int .u8 0,.int .u8 0] 61)) (w.heap.size+1)=some (#[.int .u8 0,.int .u8 0,.int .u8 0,.int .u8 0,.int .u8 0,.int .u8 0,.int .u8 0,.int .u8 0,.int .u8 0,.int .u8 0,.int .u8 0,.int .u8 0,.int .u8 0,.int .u8 0,.int .u8 0,.int .u8 0],61,(0,0)):=by simp (maxSteps:=1000000)(disch:=(first|omega|(simp only [qI,qJ,qK]<;>omega)|exact qL _)) only [go_sem,↓reduceIte,n0,reduceCtorEq,n1,n2,n3,n4,n5,i0,i1,i2,i3,i4,i5,i6,i7]
 refine fn_of_W Tryd.func34 rfl Tryd.results34 Tryd.ntmps34 rfl ?_
 repeat ((first|refine qA rfl ?_|apply qB|refine qC rfl ?_|apply qD|apply qE|apply qF|apply qG|apply qH);try simp (maxSteps:=1000000)(disch:=(first|omega|(simp only [qI,qJ,qK]<;>omega)|exact qL _)) only [go_sem,↓reduceIte,n0,reduceCtorEq,n1,n2,n3,n4,n5,i0,i1,i2,i3,i4,i5,i6,i7])
 generalize ((w.alloc (.cells #[.int .u8 0,.int .u8 0,.int .u8 0,.int .u8 0,.int .u8 0,.int .u8 0,.int .u8 0,.int .u8 0,.int .u8 0,.int .u8 0,.int .u8 0,.int .u8 0,.int .u8 0,.int .u8 0,.int .u8 0,.int .u8 0] 61)).alloc (.cells #[.int .u8 0,.int .u8 0,.int .u8 0,.int .u8 0,.int .u8 0,.int .u8 0,.int .u8 0,.int .u8 0,.int .u8 0,.int .u8 0,.int .u8 0,.int .u8 0,.int .u8 0,.int .u8 0,.int .u8 0,.int .u8 0] 61))=w1 at *
 refine W.drawR (.take 0 (.take 1 (.only 2 (.only 3 .done)))) (fun b=>b=rb∨b=w.heap.size+1) mixed (by kernel_rfl) ?_
 simp (maxSteps:=1000000)(disch:=(first|omega|(simp only [qI,qJ,qK]<;>omega)|exact qL _)) only [go_sem,↓reduceIte,n0,reduceCtorEq,n1,n2,n3,n4,n5,i0,i1,i2,i3,i4,i5,i6,i7]
 have hEd:Ext w1 w1.drew:=(Upd.refl _ _).drew
 have h':Rdr RT (fun b=>ok b∧b < w.heap.size) w rb st:=h.weaken fun b hb hk=>⟨hk,hb⟩
 refine (Span_fn w1.drew (h'.upd (hE1.trans hEd) (fun h=>h) (fun _ _ _ h=>h)) (fun h=>hr h.1) 16).mono ?_
 rintro r2 w2 ⟨hB2,_,_,h2,hn2,hu2⟩
 obtain ⟨a2,c2,rfl,hc2⟩:=hB2.shape
 refine ⟨hu2.mono fun _ h=>.inl h,?_⟩
 have h1r:¬ w.heap.size+1=rb:=by omega
 have h0r:¬ w.heap.size=rb:=by omega
 have hb3':=hu2.blk_some (hEd.blk_some hb3 id) h1r
 have hb2':=hu2.blk_some (hEd.blk_some hb2 id) h0r
 generalize (rdSpan 16 st).1=s at *
 refine wp_copy (E:=5) (s:=s) (ok:=fun b=>ok b∧b < w.heap.size) (by kernel_rfl) (by kernel_rfl) rfl rfl hB2 hb3' (by simp) rfl ?_
 intro v0
 have hcell:wrArr #[.int .u8 0,.int .u8 0,.int .u8 0,.int .u8 0,.int .u8 0,.int .u8 0,.int .u8 0,.int .u8 0,.int .u8 0,.int .u8 0,.int .u8 0,.int .u8 0,.int .u8 0,.int .u8 0,.int .u8 0,.int .u8 0] 0 ((s.take 16).map byteV)=((uuidS s).map byteV).toArray:=by
  have h:=wrArr_append [] ((List.replicate 16 (0:UInt8)).map byteV) ((s.take 16).map byteV) (by simp;omega)
  simp only [List.nil_append,List.length_nil] at h
  refine Eq.trans ?_ (h.trans ?_)
  ·rfl
  ·congr 1
   rw [uuidS,List.map_append]
   congr 1
   rw [List.length_map,← List.map_drop,List.drop_replicate,List.length_take]
   congr 2;omega
 have hu02:Upd (fun b=>b=rb) w w2:=((hE1.trans hEd).mono fun _ h=>h.elim).trans hu2
 generalize hw3:wr w2 (w.heap.size+1) 0 _=w3
 have hu3:Upd (fun b=>b=rb∨b=w.heap.size+1) w1.drew w3:=by rw [← hw3];exact (hu2.mono fun _ h=>.inl h).wr _ _ (.inr (.inr rfl))
 have hu03:Upd (fun b=>b=rb) w w3:=by rw [← hw3];exact hu02.wr _ _ (.inl (by omega))
 have hu23:Upd (fun b=>b=w.heap.size∨b=w.heap.size+1) w2 w3:=by rw [← hw3];exact (Upd.refl _ _).wr _ _ (.inr (.inr rfl))
 have hb33:blk w3 (w.heap.size+1)=some (((uuidS s).map byteV).toArray,61,(0,0)):=by
  rw [← hw3,blk_wr_eq,hb3']
  simp only [Option.map_some,hcell]
 have hb23:blk w3 w.heap.size=some (#[.int .u8 0,.int .u8 0,.int .u8 0,.int .u8 0,.int .u8 0,.int .u8 0,.int .u8 0,.int .u8 0,.int .u8 0,.int .u8 0,.int .u8 0,.int .u8 0,.int .u8 0,.int .u8 0,.int .u8 0,.int .u8 0],61,(0,0)):=by
  rw [← hw3,blk_wr_ne (by omega)];exact hb2'
 clear hw3
 refine ⟨hu3,?_⟩
 have hl16:((uuidS s).map byteV).length=16:=by rw [List.length_map,uuidS_len]
 have hfl:=flat_bytes (uuidS s)
 generalize (uuidS s).map byteV=X at *
 obtain ⟨x0,x1,x2,x3,x4,x5,x6,x7,x8,x9,x10,x11,x12,x13,x14,x15,rfl⟩:=list16 hl16
 simp only [List.all_cons,List.all_nil,Bool.and_true,Bool.and_eq_true] at hfl
 obtain ⟨f0,f1,f2,f3,f4,f5,f6,f7,f8,f9,f10,f11,f12,f13,f14,f15⟩:=hfl
 have hc16:cellsAt #[x0,x1,x2,x3,x4,x5,x6,x7,x8,x9,x10,x11,x12,x13,x14,x15] 0 16=some (.agg #[x0,x1,x2,x3,x4,x5,x6,x7,x8,x9,x10,x11,x12,x13,x14,x15]):=rfl
 repeat ((first|refine qA rfl ?_|apply qB|refine qC rfl ?_|apply qD|apply qE|apply qF|apply qG|apply qH);try simp (maxSteps:=1000000)(disch:=(first|omega|(simp only [qI,qJ,qK]<;>omega)|exact qL _)) only [go_sem,↓reduceIte,n0,reduceCtorEq,n1,n2,n3,n4,n5,i0,i1,i2,i3,i4,i5,i6,i7,hb33,hb23,hc16,f0,f1,f2,f3,f4,f5,f6,f7,f8,f9,f10,f11,f12,f13,f14,f15])
 have hu34:∀ vs,Upd (fun b=>b=w.heap.size∨b=w.heap.size+1) w2 (wr w3 w.heap.size 0 vs):=fun vs=>hu23.wr _ _ (.inr (.inl rfl))
 refine ⟨rfl,⟨(h2.upd (hu34 _) (by omega) fun b _ hk e => ?_).weaken fun b _ hk=>hk.1,(hn2 (.inr (by decide))).upd (hu34 _) (by omega)⟩,hu03.wr _ _ (.inl (Nat.le_refl _))⟩
 have:=hk.2;omega

def GloErr (w:World) (ev:Value):Prop:=∃ x,blk w 1=some x∧x.1[0]? = some ev
theorem RComplete_fn {ok:Blocks} {rb:Nat} {st:St} {ev:Value} (w:World) (h:Rdr RT ok w rb st) (hg:GloErr w ev) :
  Fn Tryd.prog 28 #[.pointer (some ⟨rb,0,none⟩)] w fun r w'=>r=errV ev st∧w'=w:=by
 obtain ⟨v,hb,hB,hn⟩:=h.ex
 obtain ⟨xg,hxg,hev⟩:=hg
 refine fn_of_W Tryd.func28 rfl Tryd.results28 Tryd.ntmps28 rfl ?_
 unfold errV
 cases st with
 | none =>
  have hb':blk w rb=some (#[v,.bool true],RT,(0,0)):=hb
  repeat ((first|refine qA rfl ?_|apply qB|refine qC rfl ?_|apply qD|apply qE|apply qF|apply qG|apply qH);try simp (maxSteps:=1000000)(disch:=(first|omega|(simp only [qI,qJ,qK]<;>omega)|exact qL _)) only [go_sem,↓reduceIte,n0,reduceCtorEq,n1,n2,n3,n4,n5,i0,i1,i2,i3,i4,i5,i6,i7,hb',hxg,hev])
  all_goals rfl
 | some s =>
  have hb':blk w rb=some (#[v,.bool false],RT,(0,0)):=hb
  repeat ((first|refine qA rfl ?_|apply qB|refine qC rfl ?_|apply qD|apply qE|apply qF|apply qG|apply qH);try simp (maxSteps:=1000000)(disch:=(first|omega|(simp only [qI,qJ,qK]<;>omega)|exact qL _)) only [go_sem,↓reduceIte,n0,reduceCtorEq,n1,n2,n3,n4,n5,i0,i1,i2,i3,i4,i5,i6,i7,hb',hxg,hev])
  all_goals rfl

theorem ROk_fn {ok:Blocks} {rb:Nat} {st:St} (w:World) (h:Rdr RT ok w rb st) :
  Fn Tryd.prog 27 #[.pointer (some ⟨rb,0,none⟩)] w fun r w'=>r = .bool st.isSome∧w'=w:=by
 obtain ⟨v,hb,hB,hn⟩:=h.ex
 refine fn_of_W Tryd.func27 rfl Tryd.results27 Tryd.ntmps27 rfl ?_
 cases st with
 | none =>
  have hb':blk w rb=some (#[v,.bool true],RT,(0,0)):=hb
  repeat ((first|refine qA rfl ?_|apply qB|refine qC rfl ?_|apply qD|apply qE|apply qF|apply qG|apply qH);try simp (maxSteps:=1000000)(disch:=(first|omega|(simp only [qI,qJ,qK]<;>omega)|exact qL _)) only [go_sem,↓reduceIte,n0,reduceCtorEq,n1,n2,n3,n4,n5,i0,i1,i2,i3,i4,i5,i6,i7,hb'])
  all_goals rfl
 | some s =>
  have hb':blk w rb=some (#[v,.bool false],RT,(0,0)):=hb
  repeat ((first|refine qA rfl ?_|apply qB|refine qC rfl ?_|apply qD|apply qE|apply qF|apply qG|apply qH);try simp (maxSteps:=1000000)(disch:=(first|omega|(simp only [qI,qJ,qK]<;>omega)|exact qL _)) only [go_sem,↓reduceIte,n0,reduceCtorEq,n1,n2,n3,n4,n5,i0,i1,i2,i3,i4,i5,i6,i7,hb'])
  all_goals rfl
end Ms

namespace Ms
open Go Go.ChangeMaps
section
variable {P : Program} {ρ:Regs} {w:World} {K:Regs→World→Prop} {d:Option Nat} {type:TypeId} {pos:String} {after:Array Edge} {guard:Option (Nat × Bool)}
theorem wp_mapPut {T k e:TypeId} {m x y:Operand} {r clock i:Nat} {es:Array MapEntry} {n:Int} {v:Value} (hT:P.underlying T=some (.map k e)) (hK:P.underlying k=some (.int .u32)) (hm:ev ρ m = .map (some r)) (hx:ev ρ x = .int .u32 n) (hy:ev ρ y=v)
  (hb:w.heap[r]? = some (.map es clock)) (h1:KeysU es.toList) (hi:i < es.size) (h2:es[i].key = .int .u32 n) (h3:∀ j (hj:j < es.size),j < i→es[j].key≠.int .u32 n)
  (hk:K (put ρ d undef) (Go.ChangeMaps.setBlock w r (.map (es.modify i fun e=>{ e with key:=.int .u32 n,val:=v }) clock))) :
  rawK P { dst:=d,op:=.mapUpdate T m x y,type:=type,pos:=pos,after:=after,guard:=guard } ρ w K:=by
 refine wp_skip ?_ hk
 have g1:(getObj r).run P w = .ok (.map es clock) w:=MapKept.run_getObj_map hb
 have hf:=findNow_hit (i:=0) (k:=i) (es:=es.toList) (n:=n) (by simpa using hi) h1 (by simpa using h2) (fun j hj hji=>by simpa using h3 j (by simpa using hj) hji)
 have g2:(Instr.findKey k (.int .u32 n) es.toList).run P w = .ok (some (i,es[i].val)) w:=by
  simp only [Instr.findKey,Sem.run_bind,run_underlying hK,Result.andThen_ok,hf,Sem.run_pure]
  simp
 have g3:(Instr.checkKey false 10000 k (.int .u32 n)).run P w = .ok () w:=checkKey_int hK false 9999 n w
 have g5:(Instr.keyThatStays (((es[i]?).map (·.key)).getD (.int .u32 n)) (.int .u32 n)).run P w = .ok (.int .u32 n) w:=by
  have:((es[i]?).map (·.key)).getD (.int .u32 n) = .int .u32 n:=by simp [hi,h2]
  rw [this]
  have hs:Instr.sameBits 10000 (.int .u32 n) (.int .u32 n)=true:=by simp [Instr.sameBits]
  simp only [Instr.keyThatStays,hs,if_true,Sem.run_pure]
 have g4:(setObj r (.map (es.modify i fun e=>{ e with key:=.int .u32 n,val:=v }) clock)).run P w = .ok () (Go.ChangeMaps.setBlock w r (.map (es.modify i fun e=>{ e with key:=.int .u32 n,val:=v }) clock)):=by
  simp [setObj,Sem.run,hb,Go.ChangeMaps.setBlock]
 simp only [execOp,hm,hx,hy,Instr.mapUpdate,Sem.run_bind,run_underlying hT,Result.andThen_ok,g1,g2,g3,g4,g5,Sem.run_pure]
end
theorem tagPut_new {u:List TagD} {y:TagD} (h:∀ z∈u,z.1≠y.1):tagPut u y=u++[y]:=by
 unfold tagPut
 rw [if_neg]
 simp only [List.any_eq_true,beq_iff_eq,not_exists,not_and]
 exact h
theorem tagPut_old {u:List TagD} {y:TagD} {i:Nat} (hi:i < u.length) (h:u[i].1=y.1) (hn:(u.map (·.1)).Nodup):tagPut u y=u.set i y:=by
 unfold tagPut
 rw [if_pos (by simp only [List.any_eq_true,beq_iff_eq];exact ⟨_,List.getElem_mem hi,h⟩)]
 apply List.ext_getElem (by simp)
 intro j h1 h2
 simp only [List.length_map] at h1
 rw [List.getElem_map,List.getElem_set]
 by_cases hj:i=j
 ·subst hj;rw [if_pos h,if_pos rfl]
 ·rw [if_neg hj,if_neg]
  intro he
  have hn2:=List.pairwise_iff_getElem.1 (List.nodup_iff_pairwise_ne.1 hn)
  rcases Nat.lt_or_ge i j with h3|h3
  ·have:=hn2 i j (by simpa using hi) (by simpa using h1) h3
   simp only [List.getElem_map] at this
   exact this (by rw [h,he])
  ·have:=hn2 j i (by simpa using h1) (by simpa using hi) (by omega)
   simp only [List.getElem_map] at this
   exact this (by rw [h,he])
theorem tagPut_keys (u:List TagD) (y:TagD) (hn:(u.map (·.1)).Nodup):((tagPut u y).map (·.1)).Nodup:=by
 by_cases h:∀ z∈u,z.1≠y.1
 ·rw [tagPut_new h,List.map_append,List.nodup_append]
  refine ⟨hn,by simp,fun a ha b hb => ?_⟩
  obtain ⟨z,hz,rfl⟩:=List.mem_map.1 ha
  simp only [List.map_cons,List.map_nil,List.mem_singleton] at hb
  rw [hb];exact h z hz
 ·obtain ⟨z,hz,he⟩:∃ z,z∈u∧z.1=y.1:=by
   apply Classical.byContradiction
   intro hc
   exact h fun z hz he=>hc ⟨z,hz,he⟩
  obtain ⟨i,hi,rfl⟩:=List.getElem_of_mem hz
  rw [tagPut_old hi he hn]
  have:(u.set i y).map (·.1)=u.map (·.1):=by
   apply List.ext_getElem (by simp)
   intro j h1 h2
   simp only [List.length_map,List.length_set] at h1
   rw [List.getElem_map,List.getElem_map,List.getElem_set]
   split
   ·rename_i e;subst e;exact he.symm
   ·rfl
  rw [this];exact hn
theorem tagE_set {ok:Blocks} {w:World} {u:List TagD} {es:Array MapEntry} {clock i:Nat} (hsz:es.size=u.length) (h:∀ i (h1:i < u.length) (h2:i < es.size),TagE ok w u[i] es[i]∧es[i].born < clock) (hi:i < u.length) {y:TagD} {v:Value} (hy:y.1 < 2 ^ 32) (hv:BytesV ok w v y.2) :
  (es.modify i fun e=>{ e with key:=.int .u32 y.1,val:=v }).size=(u.set i y).length∧(∀ j (h1:j < (u.set i y).length) (h2:j < (es.modify i fun e=>{ e with key:=.int .u32 y.1,val:=v }).size),TagE ok w (u.set i y)[j] (es.modify i fun e=>{ e with key:=.int .u32 y.1,val:=v })[j]∧(es.modify i fun e=>{ e with key:=.int .u32 y.1,val:=v })[j].born < clock):=by
 refine ⟨by simp [hsz],fun j h1 h2 => ?_⟩
 simp only [List.length_set] at h1
 rw [List.getElem_set,Array.getElem_modify]
 split
 ·rename_i e;subst e
  exact ⟨⟨rfl,hy,hv⟩,(h i h1 (by omega)).2⟩
 ·exact h j h1 (by omega)
theorem inj_set {es:Array MapEntry} {i:Nat} {f:MapEntry→MapEntry} (hf:∀ e,(f e).born=e.born) (h:∀ i j (h1:i < es.size) (h2:j < es.size),es[i].born=es[j].born→i=j) :
  ∀ a b (h1:a < (es.modify i f).size) (h2:b < (es.modify i f).size),(es.modify i f)[a].born=(es.modify i f)[b].born→a=b:=by
 intro a b h1 h2 he
 simp only [Array.size_modify] at h1 h2
 have key:∀ c (hc:c < es.size) (hc2:c < (es.modify i f).size),((es.modify i f)[c]).born=es[c].born:=by
  intro c hc hc2
  rw [Array.getElem_modify]
  split
  ·rw [hf]
  ·rfl
 rw [key a h1 _,key b h2 _] at he
 exact h a b h1 h2 he
end Ms

namespace Ms
open Go

def zs (z:List Value) (n:Nat):List Value:=(List.replicate n z).flatten
theorem zs_succ (z:List Value) (n:Nat):zs z (n+1)=z++zs z n:=by simp [zs,List.replicate_succ]
theorem zs_len (z:List Value) (n:Nat):(zs z n).length=n * z.length:=by simp [zs]
theorem zs_get (z:List Value):∀ (n k:Nat),k < n * z.length→(zs z n)[k]? = z[k % z.length]?
 | 0,k,h=>by simp at h
 | n+1,k,h=>by
  rw [zs_succ]
  have hz:0 < z.length:=by
   rcases Nat.eq_zero_or_pos z.length with h0|h0
   ·rw [h0] at h;simp at h
   ·exact h0
  by_cases hk:k < z.length
  ·rw [List.getElem?_append_left hk,Nat.mod_eq_of_lt hk]
  ·rw [List.getElem?_append_right (by omega),zs_get z n (k - z.length) (by rw [Nat.succ_mul] at h;omega),← Nat.mod_eq_sub_mod (by omega)]
theorem zeroCells_zs (z:Array Value) (n:Nat):(Builtin.zeroCells z n).toList=zs z.toList n:=by
 apply List.ext_getElem?
 intro k
 by_cases hk:k < n * z.size
 ·rw [zs_get _ _ _ (by simpa using hk)]
  have hz:0 < z.size:=by
   rcases Nat.eq_zero_or_pos z.size with h0|h0
   ·rw [h0] at hk;simp at hk
   ·exact h0
  have hm:=Nat.mod_lt k hz
  simp only [Builtin.zeroCells,Array.toList_map,List.getElem?_map,Array.length_toList]
  rw [Array.getElem?_toList,Array.getElem?_eq_getElem (by simpa using hk)]
  simp only [Array.getElem_range,Option.map_some]
  rw [getElem!_pos z (k % z.size) hm,Array.getElem?_toList,Array.getElem?_eq_getElem hm]
 ·rw [List.getElem?_eq_none (by simp [Builtin.zeroCells];omega),List.getElem?_eq_none (by rw [zs_len];simpa using hk)]
section
variable {P : Program}
theorem wp_appendZ {T X E:TypeId} {size bytes:Nat} {zc:List Value} {kx:IntKind} (hT:P.underlying T=some (.slice E)) (hX:P.underlying X=some (.int kx)) (hi:(P.info? E).map (fun i=>(i.size,i.bytes,i.zero.map (·.cells)))=some (size,bytes,some zc.toArray)) (hsz:0 < size)
  {w:World} {ρ:Regs} {d:Option Nat} {x y:Operand} {type:TypeId} {pos:String} {after:Array Edge} {guard:Option (Nat × Bool)} {K:Regs→World→Prop} {a:Option Addr} {m:Nat}
  (hx:ev ρ x = .slice a 0 0) (hy:ev ρ y = .int kx m) (h0:0 < m) (hm:m < 2147483648) (hb:bytes≤16384)
  (hk:∀ q rest,m≤q→K (put ρ d (.slice (some ⟨w.heap.size,0,none⟩) m q)) (w.drew.alloc (.cells (zs zc m++rest).toArray E))) :
  rawK P { dst:=d,op:=.call { callee:=.builtin .append,args:=#[x,y],argTypes:=#[T,X] },type:=type,pos:=pos,after:=after,guard:=guard } ρ w K:=by
 refine ⟨?_⟩
 obtain ⟨ei,hi1,hi2⟩:=Option.map_eq_some_iff.1 hi
 simp only [Prod.mk.injEq] at hi2
 obtain ⟨hs,hby,hz⟩:=hi2
 obtain ⟨z,hz1,hz2⟩:=Option.map_eq_some_iff.1 hz
 have hw:IntKind.i64.wrap (m:Int)=m:=i64_wrap (by omega)
 have hmb:(m:Int) * (ei.bytes:Int)≤2 ^ 48:=by
  have:m * ei.bytes≤2147483648 * 16384:=Nat.mul_le_mul (by omega) (by omega)
  have e:((m * ei.bytes:Nat):Int)=(m:Int) * (ei.bytes:Int):=Int.natCast_mul _ _
  rw [← e]
  have:((m * ei.bytes:Nat):Int)≤((2147483648 * 16384:Nat):Int):=by exact_mod_cast this
  omega
 have hnx:Builtin.nextslicecap m 0 * ei.bytes≤2 ^ 48:=by
  have h1:=nextslicecap_le (need:=m) (old:=0) h0
  have:Builtin.nextslicecap m 0 * ei.bytes≤(2 * 2147483648+512) * 16384:=Nat.mul_le_mul (by omega) (by omega)
  omega
 have hne:¬ (m * ei.size=0):=by
  rw [hs]
  exact Nat.ne_of_gt (Nat.mul_pos h0 hsz)
 obtain ⟨q,hq1,hq2⟩:∃ q,m≤q∧(Builtin.append_ #[T,X] type #[.slice a 0 0,.int kx m]).run P w = .ok (.slice (some ⟨w.heap.size,0,none⟩) m q) (w.drew.alloc (.cells (zs zc m++zs zc (q - m)).toArray E)):=by
  have hfc:∀ w:World,(Builtin.firstCells ei.size 0 (.slice a 0 0)).run P w = .ok #[] w:=by
   intro w
   cases a with
   | none=>rfl
   | some a=>simp only [Builtin.firstCells,Nat.zero_mul,loadCells];rfl
  have hzz:∀ n,Builtin.zeroCells z.cells n=(zs zc n).toArray:=fun n=>by
   apply Array.ext'
   rw [zeroCells_zs,hz2]
  refine ⟨(Question.appendCap (0+m) 0 E).cut (w.tape w.drawn (Question.appendCap (0+m) 0 E)),by simp only [Question.cut];omega,?_⟩
  generalize hq:(Question.appendCap (0+m) 0 E).cut (w.tape w.drawn (Question.appendCap (0+m) 0 E))=q
  have hask:(askRoom (q * ei.bytes)).run P w.drew = .ok () w.drew:=by
   unfold askRoom;split<;>rfl
  simp only [Builtin.append_,List.getElem?_toArray,List.getElem?_cons_zero,List.getElem?_cons_succ,Sem.run_bind,run_underlying hT,Result.andThen_ok,run_sizeOf hi1,run_underlying hX,Sem.run_pure,if_true,asInt,asIntOf,hw,run_typeInfo hi1]
  rw [if_neg (by omega)]
  simp only [Sem.run_bind,Sem.run_pure,Result.andThen_ok,run_typeInfo hi1]
  rw [if_neg (by omega)]
  simp only [Sem.run_bind,Sem.run_pure,Result.andThen_ok,Int.toNat_natCast]
  rw [if_neg (show ¬ 0+m≤0 by omega)]
  simp only [Sem.run_bind,run_typeInfo hi1,Result.andThen_ok]
  rw [if_neg (by simp [IntKind.max,IntKind.signed,IntKind.bits];omega)]
  simp only [Sem.run_bind,run_typeInfo hi1,Result.andThen_ok,Sem.run_pure]
  rw [if_neg (by rw [Nat.zero_add];omega)]
  simp only [Sem.run_bind,Sem.run_pure,Result.andThen_ok,choose]
  rw [run_drew rfl,hq]
  simp only [Sem.run_pure',Sem.run_bind,run_typeInfo hi1,Sem.run_pure,Result.andThen_ok,hask,hfc,Bool.not_true,Bool.false_eq_true,if_false,if_neg hne,run_zero hi1 hz1,newRow,newObj,Sem.run]
  rw [hzz,hzz,Nat.zero_add]
  simp
  rfl
 have:(execOp (ev ρ) { dst:=d,op:=.call { callee:=.builtin .append,args:=#[x,y],argTypes:=#[T,X] },type:=type,pos:=pos,after:=after,guard:=guard }).run P w = .ok (.value (.slice (some ⟨w.heap.size,0,none⟩) m q)) (w.drew.alloc (.cells (zs zc m++zs zc (q - m)).toArray E)):=by
  simp only [execOp,resolve,Sem.run_bind,Sem.run_pure,Result.andThen_ok,invoke,builtin,List.map_toArray,List.map_cons,List.map_nil,hx,hy,hq2]
 rw [this]
 exact hk q _ hq1
end

theorem el_get {A cs B:List Value} {o:Nat} (ho:o < cs.length):((A++(cs++B)).toArray)[A.length+o]? = cs[o]?:=by
 rw [List.getElem?_toArray,List.getElem?_append_right (by omega),Nat.add_sub_cancel_left,List.getElem?_append_left ho]
theorem el_set {A cs B:List Value} {o:Nat} {v:Value} (ho:o < cs.length):((A++(cs++B)).toArray).setIfInBounds (A.length+o) v=(A++(cs.set o v++B)).toArray:=by
 rw [List.setIfInBounds_toArray,List.set_append_right _ _ (by omega),Nat.add_sub_cancel_left,List.set_append_left _ _ ho]
end Ms

