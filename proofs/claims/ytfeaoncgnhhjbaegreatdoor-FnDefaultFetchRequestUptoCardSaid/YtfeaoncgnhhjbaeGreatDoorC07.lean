/- A part of the proof: see the last text. -/
import Derived.Test.YtfeaoncgnhhjbaeGreatDoorC06
set_option linter.unusedSimpArgs false
set_option linter.unusedVariables false
namespace Ms
open Go

theorem bytes_flat : ∀ s:List UInt8,(s.map fun b=>[byteV b]).flatten=s.map byteV
 | []=>rfl
 | b :: s=>by simp only [List.map_cons,List.flatten_cons,bytes_flat s];rfl
theorem BytesV.cells {ok:Blocks} {w:World} {v:Value} {s:List UInt8} (h:BytesV ok w v s) (hs:s≠[]):∃ b o c x,v = .slice (some ⟨b,o,none⟩) s.length c∧s.length≤c∧ok b∧blk w b=some x∧∀ i (hi:i < s.length),x.1[o+i]? = some (.int .u8 s[i].toNat):=by
 obtain ⟨base,c,rfl,hc,h1,h2⟩:=h
 rcases h2 with h2|⟨a,rfl,hsp,hok,x,hx,h3⟩
 ·exact absurd (List.map_eq_nil_iff.1 h2) hs
 ·obtain ⟨b,o,sp⟩:=a
  simp only at hsp;subst hsp
  refine ⟨b,o,c,x,by simp,by simpa using hc,hok,hx,fun i hi => ?_⟩
  have hl:=flatten_len h1
  have:=h3 i (by rw [hl];simpa using hi)
  have h4:=flatten_get h1 i (by simpa using hi) 0 (by omega)
  simp only [Nat.mul_one,Nat.add_zero] at h4
  rw [h4] at this
  simpa [byteV] using this
theorem BytesV.drop {ok:Blocks} {w:World} {a:Option Addr} {n c:Nat} {s:List UInt8} (h:BytesV ok w (.slice a n c) s) (k:Nat) (hk:k≤s.length):BytesV ok w (.slice (slBase a k c 1) (s.length - k) (c - k)) (s.drop k):=by
 obtain ⟨base,c',h0,hc,h1,h2⟩:=h
 cases h0
 simp only [List.length_map] at hc
 refine ⟨slBase a k c 1,c - k,by simp,by rw [List.length_map,List.length_drop];omega,fun cs hm => ?_,?_⟩
 ·obtain ⟨b,_,rfl⟩:=List.mem_map.1 hm;rfl
 ·rcases Nat.lt_or_ge k s.length with hlt|hge
  ·right
   rcases h2 with h2|⟨ad,rfl,hsp,hok,x,hx,h3⟩
   ·rw [List.map_eq_nil_iff.1 h2] at hlt;simp at hlt
   ·obtain ⟨b,o,sp⟩:=ad
    simp only at hsp;subst hsp
    refine ⟨⟨b,o+k,none⟩,?_,rfl,hok,x,hx,fun i hi => ?_⟩
    ·unfold slBase
     rw [if_neg (show ¬ c=k by omega),Option.map_some,Nat.mul_one,add_plain]
    ·rw [bytes_flat] at hi h3 ⊢
     have:=h3 (k+i) (by rw [List.length_map,List.length_drop] at hi;rw [List.length_map];omega)
     simp only [Nat.add_assoc] at this ⊢
     rw [this]
     simp [List.getElem?_drop]
  ·left
   rw [List.drop_of_length_le hge];rfl
theorem BytesV.span {ok:Blocks} {w:World} {a:Option Addr} {n c:Nat} {s:List UInt8} (h:BytesV ok w (.slice a n c) s) (k:Nat) (hk:k≤s.length):BytesV ok w (.slice (slBase a 0 k 1) (k - 0) (k - 0)) (s.take k):=by
 have:=h.take k hk
 obtain ⟨base,c',h0,hc,h1,h2⟩:=this
 simp only [Value.slice.injEq] at h0
 obtain ⟨rfl,h01,rfl⟩:=h0
 refine ⟨slBase a 0 k 1,k - 0,by rw [← h01,Nat.sub_zero],by rw [List.length_map,List.length_take];omega,h1,h2.imp id fun ⟨ad,e,hs⟩ => ?_⟩
 refine ⟨ad,?_,hs⟩
 rw [← e]
 unfold slBase
 cases a with
 | none=>simp
 | some x =>
  obtain ⟨b,o,sp⟩:=x
  have hsp:sp=none:=by
   have h9:=hs.1
   unfold slBase at e
   split at e
   ·simp only [Option.some.injEq] at e;subst e;exact h9
   ·simp only [Option.map_some,Option.some.injEq,Nat.zero_mul] at e
    subst e
    cases sp with
    | none=>rfl
    | some q=>simp [Addr.add] at h9
  subst hsp
  split<;>split<;>simp [add_plain]
theorem slBase_some {a:Option Addr} {l m s:Nat} (h:∃ x,a=some x):∃ x,slBase a l m s=some x:=by
 obtain ⟨x,rfl⟩:=h
 unfold slBase
 split
 ·exact ⟨_,rfl⟩
 ·exact ⟨_,rfl⟩
theorem BytesV.nil (ok:Blocks) (w:World):BytesV ok w (.slice none 0 0) []:=⟨none,0,rfl,Nat.le_refl _,by simp,.inl rfl⟩

structure Rdr (T:TypeId) (ok:Blocks) (w:World) (rb:Nat) (st:St):Prop where
 ex:∃ v,blk w rb=some (#[v,.bool st.isNone],T,(0,0))∧BytesV ok w v (st.getD [])∧(st=none→v = .slice none 0 0)
theorem Rdr.upd {T:TypeId} {ok:Blocks} {w w':World} {rb:Nat} {st:St} {S:Nat→Prop} (h:Rdr T ok w rb st) (u:Upd S w w') (h1:¬ S rb) (h2:∀ b,b < w.heap.size→ok b→¬ S b):Rdr T ok w' rb st:=by
 obtain ⟨v,g1,g2,g3⟩:=h.ex
 exact ⟨v,u.blk_some g1 h1,g2.keep (u.keeps h2),g3⟩
theorem Rdr.lt {T:TypeId} {ok:Blocks} {w:World} {rb:Nat} {st:St} (h:Rdr T ok w rb st):rb < w.heap.size:=by
 obtain ⟨v,g1,_⟩:=h.ex;exact blk_lt g1
theorem Rdr.bad {T:TypeId} {ok:Blocks} {w':World} {rb:Nat} (h:blk w' rb=some (#[.slice none 0 0,.bool true],T,(0,0))):Rdr T ok w' rb none:=⟨_,h,BytesV.nil _ _,fun _=>rfl⟩
theorem Rdr.good {T:TypeId} {ok:Blocks} {w':World} {rb:Nat} {v:Value} {s:List UInt8} (h:blk w' rb=some (#[v,.bool false],T,(0,0))) (hb:BytesV ok w' v s):Rdr T ok w' rb (some s):=⟨_,h,hb,fun h=>by cases h⟩

theorem rdN_few {n:Nat} {st:St} (h:stLen st < n):rdN n st=([],none):=by
 unfold rdN
 cases st with
 | none=>rfl
 | some s=>simp only [stLen,Option.getD_some] at h;simp only;rw [if_neg (by omega)]
theorem rdN_some {n:Nat} {s:List UInt8} (h:n≤s.length):rdN n (some s)=(s.take n,some (s.drop n)):=by
 unfold rdN;simp only;rw [if_pos h]
theorem st_some {n:Nat} {st:St} (h:¬ stLen st < n+1):∃ s,st=some s∧n+1≤s.length:=by
 cases st with
 | none=>exact absurd (by simp [stLen]) h
 | some s=>exact ⟨s,rfl,by simp only [stLen,Option.getD_some] at h;omega⟩

/-! ### Octets put together -/
theorem or_shift {bits k x y:Nat} (hy:y < 2 ^ k) (h:x * 2 ^ k+y < 2 ^ bits):(BitVec.ofInt bits ((y:Nat):Int) ||| BitVec.ofInt bits ((x * 2 ^ k:Nat):Int)).toNat=x * 2 ^ k+y:=by
 rw [BitVec.toNat_or,BitVec.ofInt_natCast,BitVec.ofInt_natCast,BitVec.toNat_ofNat,BitVec.toNat_ofNat,Nat.mod_eq_of_lt (by omega),Nat.mod_eq_of_lt (by omega),Nat.or_comm]
 have:=Nat.shiftLeft_add_eq_or_of_lt hy x
 rw [Nat.shiftLeft_eq] at this
 exact this.symm
theorem beN_1 (a:UInt8):beN [a] = a.toNat:=by simp [beN]
theorem beN_2 (a b:UInt8):beN [a,b] = a.toNat * 256+b.toNat:=by simp [beN]
theorem beN_4 (a b c d:UInt8):beN [a,b,c,d] = ((a.toNat * 256+b.toNat) * 256+c.toNat) * 256+d.toNat:=by simp [beN]
theorem beN_8 (a b c d e f g h:UInt8):beN [a,b,c,d,e,f,g,h] = ((((((a.toNat * 256+b.toNat) * 256+c.toNat) * 256+d.toNat) * 256+e.toNat) * 256+f.toNat) * 256+g.toNat) * 256+h.toNat:=by simp [beN]
theorem u8_lt (a:UInt8):a.toNat < 256:=a.toNat_lt

theorem jumpQ_goto (l:Nat) (J:Regs→World→Prop) (Q:Exit→Regs→World→Prop) (ρ:Regs) (w:World):jumpQ l J Q (.goto l) ρ w=J ρ w:=by simp [jumpQ]
theorem jumpQ_ret (l:Nat) (J:Regs→World→Prop) (Q:Exit→Regs→World→Prop) (ρ:Regs) (w:World):jumpQ l J Q .ret ρ w=Q .ret ρ w:=nr rfl
theorem jumpQ_normal (l:Nat) (J:Regs→World→Prop) (Q:Exit→Regs→World→Prop) (ρ:Regs) (w:World):jumpQ l J Q .normal ρ w=Q .normal ρ w:=nr rfl
theorem and127_u8 {m:Nat} (h:m < 256):(BitVec.ofInt (kbits .u8) (m:Int) &&& BitVec.ofInt (kbits .u8) 127).toNat=m % 128:=by
 show (BitVec.ofInt 8 (m:Int) &&& BitVec.ofInt 8 127).toNat=m % 128
 rw [BitVec.toNat_and,BitVec.ofInt_natCast,BitVec.toNat_ofNat,Nat.mod_eq_of_lt h]
 exact Nat.and_two_pow_sub_one_eq_mod m 7
set_option maxRecDepth 100000 in
theorem and128F : ∀ y:Fin 256,(BitVec.ofInt 8 ((y.val:Nat):Int) &&& BitVec.ofInt 8 128).toNat=if y.val < 128 then 0 else 128:=by decide
theorem and128_lo {m:Nat} (h:m < 128):(BitVec.ofInt (kbits .u8) (m:Int) &&& BitVec.ofInt (kbits .u8) 128).toNat=0:=(and128F ⟨m,by omega⟩).trans (if_pos h)
theorem and128_hi {m:Nat} (h:¬ m < 128) (h2:m < 256):(BitVec.ofInt (kbits .u8) (m:Int) &&& BitVec.ofInt (kbits .u8) 128).toNat=128:=(and128F ⟨m,h2⟩).trans (if_neg h)

theorem uvD_some {k:Nat} {s:List UInt8} {x:Nat × List UInt8} (h:uvD k s=some x):x.2.length < s.length∧s.drop (s.length - x.2.length)=x.2:=by
 induction k generalizing s x with
 | zero =>
  cases s with
  | nil=>simp [uvD] at h
  | cons b s =>
   simp only [uvD] at h
   split at h
   ·cases h;simp
   ·cases h
 | succ k ih =>
  cases s with
  | nil=>simp [uvD] at h
  | cons b s =>
   simp only [uvD] at h
   split at h
   ·cases h;simp
   ·rw [Option.map_eq_some_iff] at h
    obtain ⟨y,hy,rfl⟩:=h
    obtain ⟨h1,h2⟩:=ih hy
    simp only [List.length_cons]
    refine ⟨by omega,?_⟩
    rw [show s.length+1 - y.2.length=(s.length - y.2.length)+1 by omega,List.drop_succ_cons]
    exact h2
theorem uvD_lt {s:List UInt8} {x:Nat × List UInt8} (h:uvD 4 s=some x):x.1 < 4294967296:=by
 have:∀ (k:Nat) (s:List UInt8) (x:Nat × List UInt8),uvD k s=some x→x.1 < 16 * 128 ^ k:=by
  intro k
  induction k with
  | zero =>
   intro s x h
   cases s with
   | nil=>simp [uvD] at h
   | cons b s =>
    simp only [uvD] at h
    split at h
    ·cases h;simp only;omega
    ·cases h
  | succ k ih =>
   intro s x h
   cases s with
   | nil=>simp [uvD] at h
   | cons b s =>
    simp only [uvD] at h
    have hp:=Nat.two_pow_pos (7 * k)
    have a8:128 ^ k=2 ^ (7 * k):=by rw [Nat.pow_mul]
    split at h
    ·cases h
     rw [Nat.pow_succ,a8];simp only;omega
    ·rw [Option.map_eq_some_iff] at h
     obtain ⟨y,hy,rfl⟩:=h
     have:=ih _ _ hy
     rw [Nat.pow_succ];simp only;omega
 have:=this 4 s x h
 omega
def NN (w:World) (rb:Nat) (st:St):Prop:=st≠none→∃ a n c x,blk w rb=some x∧x.1[0]? = some (.slice (some a) n c)
theorem NN.none (w:World) (rb:Nat):NN w rb none:=fun h=>absurd rfl h
theorem NN.upd {w w':World} {rb:Nat} {st:St} {S:Nat→Prop} (h:NN w rb st) (u:Upd S w w') (h1:¬ S rb):NN w' rb st:=fun h2=>by
 obtain ⟨a,n,c,x,g1,g2⟩:=h h2
 exact ⟨a,n,c,x,u.blk_some g1 h1,g2⟩
def RdQ (T:TypeId) (ok:Blocks) (rb:Nat) (w:World) (val:Value) (st:St) (r:Value) (w':World):Prop:=r=val∧(Rdr T ok w' rb st∧NN w' rb st)∧Upd (fun b=>b=rb) w w'
theorem RdQ.bad {T:TypeId} {ok:Blocks} {rb:Nat} {w:World} {v v1 val:Value} (hb:blk w rb=some (#[v,v1],T,(0,0))):RdQ T ok rb w val none val (wr (wr w rb 1 [.bool true]) rb 0 [.slice none 0 0]):=by
 refine ⟨rfl,⟨Rdr.bad ?_,NN.none _ _⟩,Upd.wr (S:=fun b=>b=rb) (Upd.wr (S:=fun b=>b=rb) (Upd.refl _ _) _ _ (.inr rfl)) _ _ (.inr rfl)⟩
 rw [blk_wr_eq,blk_wr_eq,hb];rfl
theorem RdQ.good {T:TypeId} {ok:Blocks} {rb n c k:Nat} {a:Option Addr} {w w1:World} {val:Value} {s:List UInt8} (hE:Ext w w1) (hb:blk w rb=some (#[.slice a n c,.bool false],T,(0,0))) (hB:BytesV ok w (.slice a n c) s) (hr:¬ ok rb) (hk:k≤s.length) (h0:0 < k) :
  RdQ T ok rb w val (some (s.drop k)) val (wr w1 rb 0 [.slice (slBase a k c 1) (s.length - k) (c - k)]):=by
 have hu:Upd (fun b=>b=rb) w (wr w1 rb 0 [.slice (slBase a k c 1) (s.length - k) (c - k)]):=(hE.mono fun _ h=>h.elim).wr _ _ (.inr rfl)
 have hb2:blk (wr w1 rb 0 [.slice (slBase a k c 1) (s.length - k) (c - k)]) rb=some (#[.slice (slBase a k c 1) (s.length - k) (c - k),.bool false],T,(0,0)):=by
  rw [blk_wr_eq,hE.blk_some hb id];rfl
 refine ⟨rfl,⟨Rdr.good (v:=.slice (slBase a k c 1) (s.length - k) (c - k)) hb2 ((hB.drop k hk).keep (hu.keeps fun b _ hk e=>hr (e ▸ hk))),fun _ => ?_⟩,hu⟩
 obtain ⟨B,o,c',x,hv,_⟩:=hB.cells (by intro h;rw [h] at hk;simp at hk;omega)
 cases hv
 obtain ⟨y,hy⟩:=slBase_some (a:=some ⟨B,o,none⟩) (l:=k) (m:=c) (s:=1) ⟨_,rfl⟩
 exact ⟨y,_,_,_,hb2,by rw [hy];rfl⟩
theorem RdQ.then {T:TypeId} {ok:Blocks} {rb:Nat} {w w1 w2:World} {val' r':Value} {st':St} (h:Upd (fun b=>b=rb) w w1) (h':RdQ T ok rb w1 val' st' r' w2):RdQ T ok rb w val' st' r' w2:=⟨h'.1,h'.2.1,h.trans h'.2.2⟩
theorem RdQ.ext {T:TypeId} {ok:Blocks} {rb:Nat} {w w1 w2:World} {val' r':Value} {st:St} (h:Upd (fun b=>b=rb) w w1) (h1:Rdr T ok w1 rb st∧NN w1 rb st) (e:Ext w1 w2) (hr:r'=val'):RdQ T ok rb w val' st r' w2 :=
 ⟨hr,⟨h1.1.upd e (fun h=>h) (fun _ _ _ h=>h),h1.2.upd e fun h=>h⟩,h.trans (e.mono fun _ h=>h.elim)⟩
def SpanQ (T:TypeId) (ok:Blocks) (rb:Nat) (w:World) (st st':St) (l:Int) (s:List UInt8) (r:Value) (w':World):Prop :=
 BytesV ok w' r s∧(st'=none→r = .slice none 0 0)∧(NN w rb st∨0 < l→st'≠none→∃ a n c,r = .slice (some a) n c)∧Rdr T ok w' rb st'∧(NN w rb st∨0 < l→NN w' rb st')∧Upd (fun b=>b=rb) w w'
theorem SpanQ.bad {T:TypeId} {ok:Blocks} {rb:Nat} {w:World} {st:St} {l:Int} {v v1:Value} (hb:blk w rb=some (#[v,v1],T,(0,0))):SpanQ T ok rb w st none l [] (.slice none 0 0) (wr (wr w rb 1 [.bool true]) rb 0 [.slice none 0 0]):=by
 obtain ⟨_,⟨h1,h2⟩,h3⟩:=RdQ.bad (ok:=ok) (val:=.slice none 0 0) hb
 exact ⟨BytesV.nil _ _,fun _=>rfl,fun _ h=>absurd rfl h,h1,fun _=>h2,h3⟩
theorem SpanQ.good {T:TypeId} {ok:Blocks} {rb n c k:Nat} {a:Option Addr} {w:World} {s:List UInt8} (hb:blk w rb=some (#[.slice a n c,.bool false],T,(0,0))) (hB:BytesV ok w (.slice a n c) s) (hr:¬ ok rb) (hk:k≤s.length) :
  SpanQ T ok rb w (some s) (some (s.drop k)) k (s.take k) (.slice (slBase a 0 k 1) k k) (wr w rb 0 [.slice (slBase a k c 1) (s.length - k) (c - k)]):=by
 have hu:Upd (fun b=>b=rb) w (wr w rb 0 [.slice (slBase a k c 1) (s.length - k) (c - k)]):=(Upd.refl _ _).wr _ _ (.inr rfl)
 have hb2:blk (wr w rb 0 [.slice (slBase a k c 1) (s.length - k) (c - k)]) rb=some (#[.slice (slBase a k c 1) (s.length - k) (c - k),.bool false],T,(0,0)):=by
  rw [blk_wr_eq,hb];rfl
 have hs:NN w rb (some s)∨0 < (k:Int)→∃ y,a=some y:=by
  rintro (h|h)
  ·obtain ⟨y,_,_,x,g1,g2⟩:=h (by simp)
   rw [hb] at g1;cases g1
   simp at g2
   exact ⟨y,g2.1⟩
  ·obtain ⟨B,o,c',x,hv,_⟩:=hB.cells (by intro h0;rw [h0] at hk;simp at hk;omega)
   cases hv;exact ⟨_,rfl⟩
 refine ⟨(hB.span k hk).keep (hu.keeps fun b _ hk e=>hr (e ▸ hk)),(fun h=>by cases h),(fun h _ => ?_),Rdr.good hb2 ((hB.drop k hk).keep (hu.keeps fun b _ hk e=>hr (e ▸ hk))),(fun h _ => ?_),hu⟩
 ·obtain ⟨y,hy⟩:=slBase_some (l:=0) (m:=k) (s:=1) (hs h)
  exact ⟨y,_,_,by rw [hy]⟩
 ·obtain ⟨y,hy⟩:=slBase_some (l:=k) (m:=c) (s:=1) (hs h)
  exact ⟨y,_,_,_,hb2,by rw [hy];rfl⟩
theorem SpanQ.zero {T:TypeId} {ok:Blocks} {rb:Nat} {w:World} (hb:blk w rb=some (#[.slice none 0 0,.bool true],T,(0,0))) :
  SpanQ T ok rb w none none 0 [] (.slice none 0 0) (wr w rb 0 [.slice none 0 0]):=by
 refine ⟨BytesV.nil _ _,fun _=>rfl,fun _ h=>absurd rfl h,Rdr.bad ?_,fun _=>NN.none _ _,(Upd.refl _ _).wr _ _ (.inr rfl)⟩
 rw [blk_wr_eq,hb];rfl
theorem rdSpan_bad {l:Int} {st:St} (h:l < 0∨(stLen st:Int) < l):rdSpan l st=([],none):=by
 unfold rdSpan
 cases st with
 | none=>rfl
 | some s=>simp only [stLen,Option.getD_some] at h;simp only;rw [if_neg (by omega)]
theorem rdSpan_good {k:Nat} {s:List UInt8} (h:k≤s.length):rdSpan (k:Int) (some s)=(s.take k,some (s.drop k)):=by
 unfold rdSpan;simp only;rw [if_pos ⟨by omega,by omega⟩];rfl
theorem rdUv_lt (st:St):(rdUv st).1 < 4294967296:=by
 unfold rdUv
 cases st with
 | none=>simp
 | some s =>
  simp only
  split
  ·rename_i x hx;exact uvD_lt hx
  ·simp
theorem beN_lt : ∀ (s:List UInt8),beN s < 256 ^ s.length:=by
 have:∀ (s:List UInt8) (n:Nat) (k:Nat),n < 256 ^ k→s.foldl (fun a b=>a * 256+b.toNat) n < 256 ^ (k+s.length):=by
  intro s
  induction s with
  | nil=>intro n k h;exact h
  | cons b s ih =>
   intro n k h
   have hb:=u8_lt b
   have:=ih (n * 256+b.toNat) (k+1) (by rw [Nat.pow_succ];omega)
   rw [List.foldl_cons,List.length_cons,show k+(s.length+1)=k+1+s.length by omega]
   exact this
 intro s
 have h:=this s 0 0 (by simp)
 rw [Nat.zero_add] at h
 exact h
theorem beN_take_lt (s:List UInt8) (n:Nat):beN (s.take n) < 256 ^ n :=
 Nat.lt_of_lt_of_le (beN_lt _) (Nat.pow_le_pow_right (by omega) (by simp only [List.length_take];omega))
theorem isNone_some_st (s:List UInt8):(some s:St).isNone=false:=rfl

theorem rd16_64 (st:St):IntKind.i64.wrap (rdInt .i16 2 st).1=(rdInt .i16 2 st).1:=by
 unfold rdInt
 generalize beN (rdN 2 st).1=n
 have : -32768≤IntKind.i16.wrap (n:Int)∧IntKind.i16.wrap (n:Int) < 32768:=by
  unfold IntKind.wrap;simp [IntKind.bits,IntKind.signed];split<;>omega
 exact i64_wrap (by omega)
theorem rd32_64 (st:St):IntKind.i64.wrap (rdInt .i32 4 st).1=(rdInt .i32 4 st).1:=by
 unfold rdInt
 generalize beN (rdN 4 st).1=n
 have : -2147483648≤IntKind.i32.wrap (n:Int)∧IntKind.i32.wrap (n:Int) < 2147483648:=by
  unfold IntKind.wrap;simp [IntKind.bits,IntKind.signed];split<;>omega
 exact i64_wrap (by omega)
theorem rdUv_64 (st:St):IntKind.i64.wrap ((rdUv st).1:Int)=((rdUv st).1:Int):=i64_wrap (by have:=rdUv_lt st;omega)
theorem rdUv_641 (st:St):IntKind.i64.wrap (((rdUv st).1:Int) - 1)=((rdUv st).1:Int) - 1:=i64_wrap (by have:=rdUv_lt st;omega)
theorem i32w_64 (n:Int):IntKind.i64.wrap (IntKind.i32.wrap n)=IntKind.i32.wrap n:=by
 have : -2147483648≤IntKind.i32.wrap n∧IntKind.i32.wrap n < 2147483648:=by
  unfold IntKind.wrap;simp [IntKind.bits,IntKind.signed];split<;>omega
 exact i64_wrap (by omega)
theorem rdStr_f (st:St):rdStr false st=rdSpan (rdInt .i16 2 st).1 (rdInt .i16 2 st).2:=by simp [rdStr,rdLen]
theorem rdStr_t (st:St):rdStr true st=rdSpan (((rdUv st).1:Int) - 1) (rdUv st).2:=by simp [rdStr,rdLen]
theorem rdLen_f (k:IntKind) (n:Nat) (st:St):rdLen false k n st=rdInt k n st:=by simp [rdLen]
theorem rdLen_t (k:IntKind) (n:Nat) (st:St):rdLen true k n st=(((rdUv st).1:Int) - 1,(rdUv st).2):=by simp [rdLen]
theorem rdCnt_f (st:St):rdCnt false st=rdInt .i32 4 st:=by simp [rdCnt]
theorem rdCnt_t (st:St):rdCnt true st=(IntKind.i32.wrap (IntKind.i32.wrap (rdUv st).1 - 1),(rdUv st).2):=by simp [rdCnt]
def RdB (T:TypeId) (ok:Blocks) (rb:Nat) (w:World) (st:St) (w':World):Prop:=(Rdr T ok w' rb st∧NN w' rb st)∧Upd (fun b=>b=rb) w w'
def errV (ev:Value) (st:St):Value:=if st.isNone=true then ev else .nilIface

theorem uuidS_idem (s:List UInt8):uuidS (uuidS s)=uuidS s:=by
 have hu:=uuidS_len s
 generalize uuidS s=x at *
 unfold uuidS
 rw [List.take_of_length_le (by omega),hu]
 simp
theorem Rdr.weaken {T:TypeId} {ok ok':Blocks} {w:World} {rb:Nat} {st:St} (h:Rdr T ok w rb st) (k:∀ b,b < w.heap.size→ok b→ok' b):Rdr T ok' w rb st:=by
 obtain ⟨v,g1,g2,g3⟩:=h.ex
 exact ⟨v,g1,g2.weaken k,g3⟩
end Ms

namespace Ms
open Go.World renaming size_alloc → qI
open Ms renaming size_wr → qJ,size_drew → qK,not_noB → qL
open W renaming seqF → qA,seq → qB,regF → qC,condK → qD,block → qE,skip → qF,ret → qG,exit → qH
set_option maxRecDepth 4000
open Go Go.Proofs
attribute [local congr] W_congr WPsq_congr WPp_congr optK_congr addrK_congr intK_congr boolK_congr sliceK_congr tupleK_congr funcK_congr Fn_congr rawK_congr takeK_congr stepK_congr convK_congr aggK_congr

theorem BE16_fn {ok:Blocks} (v:Value) (s:List UInt8) (w:World) (h:BytesV ok w v s) (hl:2≤s.length) :
  Fn Tryz.prog 90 #[.agg #[],v] w fun r w'=>r = .int .u16 (beN (s.take 2))∧Ext w w':=by
 obtain ⟨x0,x1,rest,rfl⟩:∃ x0 x1 rest,s=x0 :: x1 :: rest:=by
  match s,hl with
  | x0 :: x1 :: rest,_=>exact ⟨x0,x1,rest,rfl⟩
 obtain ⟨B,o,c,x,rfl,hc,hok,hx,hq⟩:=h.cells (by simp)
 have hbe:((beN ((x0 :: x1 :: rest).take 2):Nat):Int)=(beN [x0,x1]:Nat):=rfl
 rw [hbe,beN_2]
 have q0:x.1[o]? = some (.int .u8 x0.toNat):=hq 0 (by simp)
 have q1:x.1[o+1]? = some (.int .u8 x1.toNat):=hq 1 (by simp)
 clear hq hbe h
 have hp0:=u8_lt x0
 generalize x0.toNat=p0 at *
 have hp1:=u8_lt x1
 generalize x1.toNat=p1 at *
 have hlt:=blk_lt hx
 have c0:IntKind.u16.wrap ((p0:Int))=(p0:Int):=by unfold IntKind.wrap;simp [IntKind.bits,IntKind.signed];omega
 have c1:IntKind.u16.wrap ((p1:Int))=(p1:Int):=by unfold IntKind.wrap;simp [IntKind.bits,IntKind.signed];omega
 have s0:IntKind.u16.wrap ((p0:Int) * 2 ^ (min 8 (kbits .u16)))=((p0 * 2 ^ 8:Nat):Int):=by
  rw [show (2:Int) ^ (min 8 (kbits .u16))=256 from rfl,show (2:Nat) ^ 8=256 from rfl];unfold IntKind.wrap;simp [IntKind.bits,IntKind.signed];omega
 have hA0:p1 < 256:=by omega
 have o0:(BitVec.ofInt (kbits .u16) ((p1:Nat):Int) ||| BitVec.ofInt (kbits .u16) ((p0 * 2 ^ 8:Nat):Int)).toNat=p0 * 2 ^ 8+p1:=or_shift (bits:=16) hA0 (by omega)
 obtain ⟨a0,ha0⟩:∃ a,a=p0 * 2 ^ 8+p1:=⟨_,rfl⟩
 rw [← ha0] at o0
 have w0:IntKind.u16.wrap ((a0:Nat):Int)=((a0:Nat):Int):=by unfold IntKind.wrap;simp [IntKind.bits,IntKind.signed];omega
 have hfin:(p0 * 256+p1)=a0:=by omega
 rw [hfin]
 refine fn_of_W Tryz.func90 rfl Tryz.results90 Tryz.ntmps90 rfl ?_
 repeat ((first|refine qA ?_|apply qB|refine qC ?_|apply qD|apply qE|apply qF|apply qG|apply qH);try simp (maxSteps:=1000000)(disch:=(first|omega|(simp only [qI,qJ,qK]<;>omega)|exact qL _)) only [go_sem,hx,q0,q1])
 refine W.drawR (.take 0 (.take 1 (.take 2 (.take 3 (.take 4 (.take 5 (.take 6 (.take 7 (.take 8 (.take 9 (.only 10 .done))))))))))) NoB mixed (by kernel_rfl) ?_
 simp (maxSteps:=1000000)(disch:=(first|omega|(simp only [qI,qJ,qK]<;>omega)|exact qL _)) only [go_sem,hx,q0,q1,c0,c1,s0,o0,w0]
 refine ⟨Upd.refl _ _,?_⟩
 repeat ((first|refine qA ?_|apply qB|refine qC ?_|apply qD|apply qE|apply qF|apply qG|apply qH);try simp (maxSteps:=1000000)(disch:=(first|omega|(simp only [qI,qJ,qK]<;>omega)|exact qL _)) only [go_sem])
 exact (Upd.alloc (Upd.refl _ _) _).drew

theorem BE32_fn {ok:Blocks} (v:Value) (s:List UInt8) (w:World) (h:BytesV ok w v s) (hl:4≤s.length) :
  Fn Tryz.prog 79 #[.agg #[],v] w fun r w'=>r = .int .u32 (beN (s.take 4))∧Ext w w':=by
 obtain ⟨x0,x1,x2,x3,rest,rfl⟩:∃ x0 x1 x2 x3 rest,s=x0 :: x1 :: x2 :: x3 :: rest:=by
  match s,hl with
  | x0 :: x1 :: x2 :: x3 :: rest,_=>exact ⟨x0,x1,x2,x3,rest,rfl⟩
 obtain ⟨B,o,c,x,rfl,hc,hok,hx,hq⟩:=h.cells (by simp)
 have hbe:((beN ((x0 :: x1 :: x2 :: x3 :: rest).take 4):Nat):Int)=(beN [x0,x1,x2,x3]:Nat):=rfl
 rw [hbe,beN_4]
 have q0:x.1[o]? = some (.int .u8 x0.toNat):=hq 0 (by simp)
 have q1:x.1[o+1]? = some (.int .u8 x1.toNat):=hq 1 (by simp)
 have q2:x.1[o+2]? = some (.int .u8 x2.toNat):=hq 2 (by simp)
 have q3:x.1[o+3]? = some (.int .u8 x3.toNat):=hq 3 (by simp)
 clear hq hbe h
 have hp0:=u8_lt x0
 generalize x0.toNat=p0 at *
 have hp1:=u8_lt x1
 generalize x1.toNat=p1 at *
 have hp2:=u8_lt x2
 generalize x2.toNat=p2 at *
 have hp3:=u8_lt x3
 generalize x3.toNat=p3 at *
 have hlt:=blk_lt hx
 have c0:IntKind.u32.wrap ((p0:Int))=(p0:Int):=by unfold IntKind.wrap;simp [IntKind.bits,IntKind.signed];omega
 have c1:IntKind.u32.wrap ((p1:Int))=(p1:Int):=by unfold IntKind.wrap;simp [IntKind.bits,IntKind.signed];omega
 have c2:IntKind.u32.wrap ((p2:Int))=(p2:Int):=by unfold IntKind.wrap;simp [IntKind.bits,IntKind.signed];omega
 have c3:IntKind.u32.wrap ((p3:Int))=(p3:Int):=by unfold IntKind.wrap;simp [IntKind.bits,IntKind.signed];omega
 have s2:IntKind.u32.wrap ((p2:Int) * 2 ^ (min 8 (kbits .u32)))=((p2 * 2 ^ 8:Nat):Int):=by
  rw [show (2:Int) ^ (min 8 (kbits .u32))=256 from rfl,show (2:Nat) ^ 8=256 from rfl];unfold IntKind.wrap;simp [IntKind.bits,IntKind.signed];omega
 have hA2:p3 < 256:=by omega
 have o2:(BitVec.ofInt (kbits .u32) ((p3:Nat):Int) ||| BitVec.ofInt (kbits .u32) ((p2 * 2 ^ 8:Nat):Int)).toNat=p2 * 2 ^ 8+p3:=or_shift (bits:=32) hA2 (by omega)
 obtain ⟨a2,ha2⟩:∃ a,a=p2 * 2 ^ 8+p3:=⟨_,rfl⟩
 rw [← ha2] at o2
 have w2:IntKind.u32.wrap ((a2:Nat):Int)=((a2:Nat):Int):=by unfold IntKind.wrap;simp [IntKind.bits,IntKind.signed];omega
 have s1:IntKind.u32.wrap ((p1:Int) * 2 ^ (min 16 (kbits .u32)))=((p1 * 2 ^ 16:Nat):Int):=by
  rw [show (2:Int) ^ (min 16 (kbits .u32))=65536 from rfl,show (2:Nat) ^ 16=65536 from rfl];unfold IntKind.wrap;simp [IntKind.bits,IntKind.signed];omega
 have hA1:a2 < 65536:=by omega
 have o1:(BitVec.ofInt (kbits .u32) ((a2:Nat):Int) ||| BitVec.ofInt (kbits .u32) ((p1 * 2 ^ 16:Nat):Int)).toNat=p1 * 2 ^ 16+a2:=or_shift (bits:=32) hA1 (by omega)
 obtain ⟨a1,ha1⟩:∃ a,a=p1 * 2 ^ 16+a2:=⟨_,rfl⟩
 rw [← ha1] at o1
 have w1:IntKind.u32.wrap ((a1:Nat):Int)=((a1:Nat):Int):=by unfold IntKind.wrap;simp [IntKind.bits,IntKind.signed];omega
 have s0:IntKind.u32.wrap ((p0:Int) * 2 ^ (min 24 (kbits .u32)))=((p0 * 2 ^ 24:Nat):Int):=by
  rw [show (2:Int) ^ (min 24 (kbits .u32))=16777216 from rfl,show (2:Nat) ^ 24=16777216 from rfl];unfold IntKind.wrap;simp [IntKind.bits,IntKind.signed];omega
 have hA0:a1 < 16777216:=by omega
 have o0:(BitVec.ofInt (kbits .u32) ((a1:Nat):Int) ||| BitVec.ofInt (kbits .u32) ((p0 * 2 ^ 24:Nat):Int)).toNat=p0 * 2 ^ 24+a1:=or_shift (bits:=32) hA0 (by omega)
 obtain ⟨a0,ha0⟩:∃ a,a=p0 * 2 ^ 24+a1:=⟨_,rfl⟩
 rw [← ha0] at o0
 have w0:IntKind.u32.wrap ((a0:Nat):Int)=((a0:Nat):Int):=by unfold IntKind.wrap;simp [IntKind.bits,IntKind.signed];omega
 have hfin:(((p0 * 256+p1) * 256+p2) * 256+p3)=a0:=by omega
 rw [hfin]
 refine fn_of_W Tryz.func79 rfl Tryz.results79 Tryz.ntmps79 rfl ?_
 repeat ((first|refine qA ?_|apply qB|refine qC ?_|apply qD|apply qE|apply qF|apply qG|apply qH);try simp (maxSteps:=1000000)(disch:=(first|omega|(simp only [qI,qJ,qK]<;>omega)|exact qL _)) only [go_sem,hx,q0,q1,q2,q3])
 refine W.drawR (.take 0 (.take 1 (.take 2 (.take 3 (.take 4 (.take 5 (.take 6 (.take 7 (.take 8 (.take 9 (.take 10 (.take 11 (.take 12 (.take 13 (.take 14 (.take 15 (.take 16 (.take 17 (.take 18 (.take 19 (.take 20 (.take 21 (.only 22 .done))))))))))))))))))))))) NoB mixed (by kernel_rfl) ?_
 simp (maxSteps:=1000000)(disch:=(first|omega|(simp only [qI,qJ,qK]<;>omega)|exact qL _)) only [go_sem,hx,q0,q1,q2,q3,c0,c1,c2,c3,s2,o2,w2,s1,o1,w1,s0,o0,w0]
 refine ⟨Upd.refl _ _,?_⟩
 repeat ((first|refine qA ?_|apply qB|refine qC ?_|apply qD|apply qE|apply qF|apply qG|apply qH);try simp (maxSteps:=1000000)(disch:=(first|omega|(simp only [qI,qJ,qK]<;>omega)|exact qL _)) only [go_sem])
 exact (Upd.alloc (Upd.refl _ _) _).drew

theorem BE64_fn {ok:Blocks} (v:Value) (s:List UInt8) (w:World) (h:BytesV ok w v s) (hl:8≤s.length) :
  Fn Tryz.prog 91 #[.agg #[],v] w fun r w'=>r = .int .u64 (beN (s.take 8))∧Ext w w':=by
 obtain ⟨x0,x1,x2,x3,x4,x5,x6,x7,rest,rfl⟩:∃ x0 x1 x2 x3 x4 x5 x6 x7 rest,s=x0 :: x1 :: x2 :: x3 :: x4 :: x5 :: x6 :: x7 :: rest:=by
  match s,hl with
  | x0 :: x1 :: x2 :: x3 :: x4 :: x5 :: x6 :: x7 :: rest,_=>exact ⟨x0,x1,x2,x3,x4,x5,x6,x7,rest,rfl⟩
 obtain ⟨B,o,c,x,rfl,hc,hok,hx,hq⟩:=h.cells (by simp)
 have hbe:((beN ((x0 :: x1 :: x2 :: x3 :: x4 :: x5 :: x6 :: x7 :: rest).take 8):Nat):Int)=(beN [x0,x1,x2,x3,x4,x5,x6,x7]:Nat):=rfl
 rw [hbe,beN_8]
 have q0:x.1[o]? = some (.int .u8 x0.toNat):=hq 0 (by simp)
 have q1:x.1[o+1]? = some (.int .u8 x1.toNat):=hq 1 (by simp)
 have q2:x.1[o+2]? = some (.int .u8 x2.toNat):=hq 2 (by simp)
 have q3:x.1[o+3]? = some (.int .u8 x3.toNat):=hq 3 (by simp)
 have q4:x.1[o+4]? = some (.int .u8 x4.toNat):=hq 4 (by simp)
 have q5:x.1[o+5]? = some (.int .u8 x5.toNat):=hq 5 (by simp)
 have q6:x.1[o+6]? = some (.int .u8 x6.toNat):=hq 6 (by simp)
 have q7:x.1[o+7]? = some (.int .u8 x7.toNat):=hq 7 (by simp)
 clear hq hbe h
 have hp0:=u8_lt x0
 generalize x0.toNat=p0 at *
 have hp1:=u8_lt x1
 generalize x1.toNat=p1 at *
 have hp2:=u8_lt x2
 generalize x2.toNat=p2 at *
 have hp3:=u8_lt x3
 generalize x3.toNat=p3 at *
 have hp4:=u8_lt x4
 generalize x4.toNat=p4 at *
 have aB:=u8_lt x5
 generalize x5.toNat=p5 at *
 have aC:=u8_lt x6
 generalize x6.toNat=p6 at *
 have aD:=u8_lt x7
 generalize x7.toNat=p7 at *
 have hlt:=blk_lt hx
 have c0:IntKind.u64.wrap ((p0:Int))=(p0:Int):=by unfold IntKind.wrap;simp [IntKind.bits,IntKind.signed];omega
 have c1:IntKind.u64.wrap ((p1:Int))=(p1:Int):=by unfold IntKind.wrap;simp [IntKind.bits,IntKind.signed];omega
 have c2:IntKind.u64.wrap ((p2:Int))=(p2:Int):=by unfold IntKind.wrap;simp [IntKind.bits,IntKind.signed];omega
 have c3:IntKind.u64.wrap ((p3:Int))=(p3:Int):=by unfold IntKind.wrap;simp [IntKind.bits,IntKind.signed];omega
 have c4:IntKind.u64.wrap ((p4:Int))=(p4:Int):=by unfold IntKind.wrap;simp [IntKind.bits,IntKind.signed];omega
 have c5:IntKind.u64.wrap ((p5:Int))=(p5:Int):=by unfold IntKind.wrap;simp [IntKind.bits,IntKind.signed];omega
 have c6:IntKind.u64.wrap ((p6:Int))=(p6:Int):=by unfold IntKind.wrap;simp [IntKind.bits,IntKind.signed];omega
 have c7:IntKind.u64.wrap ((p7:Int))=(p7:Int):=by unfold IntKind.wrap;simp [IntKind.bits,IntKind.signed];omega
 have s6:IntKind.u64.wrap ((p6:Int) * 2 ^ (min 8 (kbits .u64)))=((p6 * 2 ^ 8:Nat):Int):=by
  rw [show (2:Int) ^ (min 8 (kbits .u64))=256 from rfl,show (2:Nat) ^ 8=256 from rfl];unfold IntKind.wrap;simp [IntKind.bits,IntKind.signed];omega
 have hA6:p7 < 256:=by omega
 have o6:(BitVec.ofInt (kbits .u64) ((p7:Nat):Int) ||| BitVec.ofInt (kbits .u64) ((p6 * 2 ^ 8:Nat):Int)).toNat=p6 * 2 ^ 8+p7:=or_shift (bits:=64) hA6 (by omega)
 obtain ⟨a6,aA⟩:∃ a,a=p6 * 2 ^ 8+p7:=⟨_,rfl⟩
 rw [← aA] at o6
 have w6:IntKind.u64.wrap ((a6:Nat):Int)=((a6:Nat):Int):=by unfold IntKind.wrap;simp [IntKind.bits,IntKind.signed];omega
 have s5:IntKind.u64.wrap ((p5:Int) * 2 ^ (min 16 (kbits .u64)))=((p5 * 2 ^ 16:Nat):Int):=by
  rw [show (2:Int) ^ (min 16 (kbits .u64))=65536 from rfl,show (2:Nat) ^ 16=65536 from rfl];unfold IntKind.wrap;simp [IntKind.bits,IntKind.signed];omega
 have hA5:a6 < 65536:=by omega
 have o5:(BitVec.ofInt (kbits .u64) ((a6:Nat):Int) ||| BitVec.ofInt (kbits .u64) ((p5 * 2 ^ 16:Nat):Int)).toNat=p5 * 2 ^ 16+a6:=or_shift (bits:=64) hA5 (by omega)
 obtain ⟨a5,a8⟩:∃ a,a=p5 * 2 ^ 16+a6:=⟨_,rfl⟩
 rw [← a8] at o5
 have w5:IntKind.u64.wrap ((a5:Nat):Int)=((a5:Nat):Int):=by unfold IntKind.wrap;simp [IntKind.bits,IntKind.signed];omega
 have s4:IntKind.u64.wrap ((p4:Int) * 2 ^ (min 24 (kbits .u64)))=((p4 * 2 ^ 24:Nat):Int):=by
  rw [show (2:Int) ^ (min 24 (kbits .u64))=16777216 from rfl,show (2:Nat) ^ 24=16777216 from rfl];unfold IntKind.wrap;simp [IntKind.bits,IntKind.signed];omega
 have hA4:a5 < 16777216:=by omega
 have o4:(BitVec.ofInt (kbits .u64) ((a5:Nat):Int) ||| BitVec.ofInt (kbits .u64) ((p4 * 2 ^ 24:Nat):Int)).toNat=p4 * 2 ^ 24+a5:=or_shift (bits:=64) hA4 (by omega)
 obtain ⟨a4,ha4⟩:∃ a,a=p4 * 2 ^ 24+a5:=⟨_,rfl⟩
 rw [← ha4] at o4
 have w4:IntKind.u64.wrap ((a4:Nat):Int)=((a4:Nat):Int):=by unfold IntKind.wrap;simp [IntKind.bits,IntKind.signed];omega
 have s3:IntKind.u64.wrap ((p3:Int) * 2 ^ (min 32 (kbits .u64)))=((p3 * 2 ^ 32:Nat):Int):=by
  rw [show (2:Int) ^ (min 32 (kbits .u64))=4294967296 from rfl,show (2:Nat) ^ 32=4294967296 from rfl];unfold IntKind.wrap;simp [IntKind.bits,IntKind.signed];omega
 have hA3:a4 < 4294967296:=by omega
 have o3:(BitVec.ofInt (kbits .u64) ((a4:Nat):Int) ||| BitVec.ofInt (kbits .u64) ((p3 * 2 ^ 32:Nat):Int)).toNat=p3 * 2 ^ 32+a4:=or_shift (bits:=64) hA3 (by omega)
 obtain ⟨a3,ha3⟩:∃ a,a=p3 * 2 ^ 32+a4:=⟨_,rfl⟩
 rw [← ha3] at o3
 have w3:IntKind.u64.wrap ((a3:Nat):Int)=((a3:Nat):Int):=by unfold IntKind.wrap;simp [IntKind.bits,IntKind.signed];omega
 have s2:IntKind.u64.wrap ((p2:Int) * 2 ^ (min 40 (kbits .u64)))=((p2 * 2 ^ 40:Nat):Int):=by
  rw [show (2:Int) ^ (min 40 (kbits .u64))=1099511627776 from rfl,show (2:Nat) ^ 40=1099511627776 from rfl];unfold IntKind.wrap;simp [IntKind.bits,IntKind.signed];omega
 have hA2:a3 < 1099511627776:=by omega
 have o2:(BitVec.ofInt (kbits .u64) ((a3:Nat):Int) ||| BitVec.ofInt (kbits .u64) ((p2 * 2 ^ 40:Nat):Int)).toNat=p2 * 2 ^ 40+a3:=or_shift (bits:=64) hA2 (by omega)
 obtain ⟨a2,ha2⟩:∃ a,a=p2 * 2 ^ 40+a3:=⟨_,rfl⟩
 rw [← ha2] at o2
 have w2:IntKind.u64.wrap ((a2:Nat):Int)=((a2:Nat):Int):=by unfold IntKind.wrap;simp [IntKind.bits,IntKind.signed];omega
 have s1:IntKind.u64.wrap ((p1:Int) * 2 ^ (min 48 (kbits .u64)))=((p1 * 2 ^ 48:Nat):Int):=by
  rw [show (2:Int) ^ (min 48 (kbits .u64))=281474976710656 from rfl,show (2:Nat) ^ 48=281474976710656 from rfl];unfold IntKind.wrap;simp [IntKind.bits,IntKind.signed];omega
 have hA1:a2 < 281474976710656:=by omega
 have o1:(BitVec.ofInt (kbits .u64) ((a2:Nat):Int) ||| BitVec.ofInt (kbits .u64) ((p1 * 2 ^ 48:Nat):Int)).toNat=p1 * 2 ^ 48+a2:=or_shift (bits:=64) hA1 (by omega)
 obtain ⟨a1,ha1⟩:∃ a,a=p1 * 2 ^ 48+a2:=⟨_,rfl⟩
 rw [← ha1] at o1
 have w1:IntKind.u64.wrap ((a1:Nat):Int)=((a1:Nat):Int):=by unfold IntKind.wrap;simp [IntKind.bits,IntKind.signed];omega
 have s0:IntKind.u64.wrap ((p0:Int) * 2 ^ (min 56 (kbits .u64)))=((p0 * 2 ^ 56:Nat):Int):=by
  rw [show (2:Int) ^ (min 56 (kbits .u64))=72057594037927936 from rfl,show (2:Nat) ^ 56=72057594037927936 from rfl];unfold IntKind.wrap;simp [IntKind.bits,IntKind.signed];omega
 have hA0:a1 < 72057594037927936:=by omega
 have o0:(BitVec.ofInt (kbits .u64) ((a1:Nat):Int) ||| BitVec.ofInt (kbits .u64) ((p0 * 2 ^ 56:Nat):Int)).toNat=p0 * 2 ^ 56+a1:=or_shift (bits:=64) hA0 (by omega)
 obtain ⟨a0,ha0⟩:∃ a,a=p0 * 2 ^ 56+a1:=⟨_,rfl⟩
 rw [← ha0] at o0
 have w0:IntKind.u64.wrap ((a0:Nat):Int)=((a0:Nat):Int):=by unfold IntKind.wrap;simp [IntKind.bits,IntKind.signed];omega
 have hfin:(((((((p0 * 256+p1) * 256+p2) * 256+p3) * 256+p4) * 256+p5) * 256+p6) * 256+p7)=a0:=by omega
 rw [hfin]
 refine fn_of_W Tryz.func91 rfl Tryz.results91 Tryz.ntmps91 rfl ?_
 repeat ((first|refine qA ?_|apply qB|refine qC ?_|apply qD|apply qE|apply qF|apply qG|apply qH);try simp (maxSteps:=1000000)(disch:=(first|omega|(simp only [qI,qJ,qK]<;>omega)|exact qL _)) only [go_sem,hx,q0,q1,q2,q3,q4,q5,q6,q7])
 refine W.drawR (.take 0 (.take 1 (.take 2 (.take 3 (.take 4 (.take 5 (.take 6 (.take 7 (.take 8 (.take 9 (.take 10 (.take 11 (.take 12 (.take 13 (.take 14 (.take 15 (.take 16 (.take 17 (.take 18 (.take 19 (.take 20 (.take 21 (.take 22 (.take 23 (.take 24 (.take 25 (.take 26 (.take 27 (.take 28 (.take 29 (.take 30 (.take 31 (.take 32 (.take 33 (.take 34 (.take 35 (.take 36 (.take 37 (.take 38 (.take 39 (.take 40 (.take 41 (.take 42 (.take 43 (.take 44 (.take 45 (.only 46 .done))))))))))))))))))))))))))))))))))))))))))))))) NoB mixed (by kernel_rfl) ?_
 simp (maxSteps:=1000000)(disch:=(first|omega|(simp only [qI,qJ,qK]<;>omega)|exact qL _)) only [go_sem,hx,q0,q1,q2,q3,q4,q5,q6,q7,c0,c1,c2,c3,c4,c5,c6,c7,s6,o6,w6,s5,o5,w5,s4,o4,w4,s3,o3,w3,s2,o2,w2,s1,o1,w1,s0,o0,w0]
 refine ⟨Upd.refl _ _,?_⟩
 repeat ((first|refine qA ?_|apply qB|refine qC ?_|apply qD|apply qE|apply qF|apply qG|apply qH);try simp (maxSteps:=1000000)(disch:=(first|omega|(simp only [qI,qJ,qK]<;>omega)|exact qL _)) only [go_sem])
 exact (Upd.alloc (Upd.refl _ _) _).drew

end Ms

namespace Ms
open Go.World renaming size_alloc → qI
open Ms renaming size_wr → qJ,size_drew → qK,not_noB → qL
open W renaming seqF → qA,seq → qB,regF → qC,condK → qD,block → qE,skip → qF,ret → qG,exit → qH
set_option maxRecDepth 8000
open Go Go.Proofs
attribute [local congr] W_congr WPsq_congr WPp_congr optK_congr addrK_congr intK_congr boolK_congr sliceK_congr tupleK_congr funcK_congr Fn_congr rawK_congr takeK_congr stepK_congr convK_congr aggK_congr

set_option maxHeartbeats 1000000 in
theorem Uv_out0 {ok:Blocks} (v:Value) (w:World) (h:BytesV ok w v ([]))  : Fn Tryz.prog 83 #[v] w fun r w'=>w'=w∧r = .tuple #[.int .u32 0,.int .i64 (0)]:=by
 obtain ⟨av,cv,rfl,hcv⟩:=h.shape
 refine fn_of_W Tryz.func83 rfl Tryz.results83 Tryz.ntmps83 rfl ?_
 repeat ((first|refine qA ?_|apply qB|refine qC ?_|apply qD|apply qE|apply qF|apply qG|apply qH);try simp (maxSteps:=1000000)(disch:=omega) only [go_sem])
 refine W.scope 0 (fun ρ w'=>w'=w∧ρ 5 = .int .i64 0) (fun _ _=>0) rfl ?_ ?_
 rotate_left
 ·rintro ρ w' ⟨rfl,h5⟩
  repeat ((first|refine qA ?_|apply qB|refine qC ?_|apply qD|apply qE|apply qF|apply qG|apply qH|refine W.goto ?_|refine W.label ?_);try simp (maxSteps:=1000000)(disch:=omega) only [go_sem,jumpQ_ret,jumpQ_normal,h5])
 repeat ((first|refine qA ?_|apply qB|refine qC ?_|apply qD|apply qE|apply qF|apply qG|apply qH|refine W.goto ?_|refine W.label ?_);try simp (maxSteps:=1000000)(disch:=omega) only [go_sem,jumpQ_ret,jumpQ_normal,jumpQ_goto])

set_option maxHeartbeats 1000000 in
theorem Uv_out1 {ok:Blocks} (v:Value) (b0:UInt8) (w:World) (h:BytesV ok w v ([b0])) (g0:¬ b0.toNat < 128):Fn Tryz.prog 83 #[v] w fun r w'=>w'=w∧r = .tuple #[.int .u32 0,.int .i64 (0)]:=by
 obtain ⟨B,o,c,x,rfl,hc,hok,hx,hq⟩:=h.cells (by simp)
 have q0:x.1[o]? = some (.int .u8 b0.toNat):=hq 0 (by simp)
 clear hq h
 have hp0:=u8_lt b0
 generalize b0.toNat=p0 at *
 have hlt:=blk_lt hx
 have k0:IntKind.u8.wrap (((BitVec.ofInt (kbits .u8) (p0:Int) &&& BitVec.ofInt (kbits .u8) 127).toNat:Nat):Int)=((p0 % 128:Nat):Int):=by rw [and127_u8 (by omega)];exact IntWalk.u8_in _ (by omega)
 have m0:IntKind.u8.wrap (((BitVec.ofInt (kbits .u8) (p0:Int) &&& BitVec.ofInt (kbits .u8) 128).toNat:Nat):Int)=128:=by rw [and128_hi (by omega) (by omega)];rfl
 have c0:IntKind.u32.wrap ((p0 % 128:Nat):Int)=((p0 % 128:Nat):Int):=u32_wrap (by omega)
 obtain ⟨a0,ha0⟩:∃ a,a=p0 % 128:=⟨_,rfl⟩
 refine fn_of_W Tryz.func83 rfl Tryz.results83 Tryz.ntmps83 rfl ?_
 repeat ((first|refine qA ?_|apply qB|refine qC ?_|apply qD|apply qE|apply qF|apply qG|apply qH);try simp (maxSteps:=1000000)(disch:=omega) only [go_sem])
 refine W.scope 0 (fun ρ w'=>w'=w∧ρ 5 = .int .i64 0) (fun _ _=>0) rfl ?_ ?_
 rotate_left
 ·rintro ρ w' ⟨rfl,h5⟩
  repeat ((first|refine qA ?_|apply qB|refine qC ?_|apply qD|apply qE|apply qF|apply qG|apply qH|refine W.goto ?_|refine W.label ?_);try simp (maxSteps:=1000000)(disch:=omega) only [go_sem,jumpQ_ret,jumpQ_normal,h5])
 repeat ((first|refine qA ?_|apply qB|refine qC ?_|apply qD|apply qE|apply qF|apply qG|apply qH|refine W.goto ?_|refine W.label ?_);try simp (maxSteps:=1000000)(disch:=omega) only [go_sem,jumpQ_ret,jumpQ_normal,jumpQ_goto,q0,hx,k0,m0,c0])

set_option maxHeartbeats 1000000 in
theorem Uv_out2 {ok:Blocks} (v:Value) (b0:UInt8) (b1:UInt8) (w:World) (h:BytesV ok w v ([b0,b1])) (g0:¬ b0.toNat < 128) (g1:¬ b1.toNat < 128):Fn Tryz.prog 83 #[v] w fun r w'=>w'=w∧r = .tuple #[.int .u32 0,.int .i64 (0)]:=by
 obtain ⟨B,o,c,x,rfl,hc,hok,hx,hq⟩:=h.cells (by simp)
 have q0:x.1[o]? = some (.int .u8 b0.toNat):=hq 0 (by simp)
 have q1:x.1[o+1]? = some (.int .u8 b1.toNat):=hq 1 (by simp)
 clear hq h
 have hp0:=u8_lt b0
 generalize b0.toNat=p0 at *
 have hp1:=u8_lt b1
 generalize b1.toNat=p1 at *
 have hlt:=blk_lt hx
 have k0:IntKind.u8.wrap (((BitVec.ofInt (kbits .u8) (p0:Int) &&& BitVec.ofInt (kbits .u8) 127).toNat:Nat):Int)=((p0 % 128:Nat):Int):=by rw [and127_u8 (by omega)];exact IntWalk.u8_in _ (by omega)
 have m0:IntKind.u8.wrap (((BitVec.ofInt (kbits .u8) (p0:Int) &&& BitVec.ofInt (kbits .u8) 128).toNat:Nat):Int)=128:=by rw [and128_hi (by omega) (by omega)];rfl
 have c0:IntKind.u32.wrap ((p0 % 128:Nat):Int)=((p0 % 128:Nat):Int):=u32_wrap (by omega)
 obtain ⟨a0,ha0⟩:∃ a,a=p0 % 128:=⟨_,rfl⟩
 have k1:IntKind.u8.wrap (((BitVec.ofInt (kbits .u8) (p1:Int) &&& BitVec.ofInt (kbits .u8) 127).toNat:Nat):Int)=((p1 % 128:Nat):Int):=by rw [and127_u8 (by omega)];exact IntWalk.u8_in _ (by omega)
 have m1:IntKind.u8.wrap (((BitVec.ofInt (kbits .u8) (p1:Int) &&& BitVec.ofInt (kbits .u8) 128).toNat:Nat):Int)=128:=by rw [and128_hi (by omega) (by omega)];rfl
 have c1:IntKind.u32.wrap ((p1 % 128:Nat):Int)=((p1 % 128:Nat):Int):=u32_wrap (by omega)
 have s1:IntKind.u32.wrap (((p1 % 128:Nat):Int) * 2 ^ (min 7 (kbits .u32)))=(((p1 % 128) * 2 ^ 7:Nat):Int):=by
  rw [show (2:Int) ^ (min 7 (kbits .u32))=128 from rfl,show (2:Nat) ^ 7=128 from rfl,u32_wrap (by omega)];omega
 have hA1:p0 % 128 < 2 ^ 7:=by omega
 have o1:(BitVec.ofInt (kbits .u32) ((p0 % 128:Nat):Int) ||| BitVec.ofInt (kbits .u32) (((p1 % 128) * 2 ^ 7:Nat):Int)).toNat=(p1 % 128) * 2 ^ 7+p0 % 128:=or_shift (bits:=32) hA1 (by omega)
 obtain ⟨a1,ha1⟩:∃ a,a=(p1 % 128) * 2 ^ 7+p0 % 128:=⟨_,rfl⟩
 rw [← ha1] at o1
 have w1:IntKind.u32.wrap ((a1:Nat):Int)=((a1:Nat):Int):=u32_wrap (by omega)
 refine fn_of_W Tryz.func83 rfl Tryz.results83 Tryz.ntmps83 rfl ?_
 repeat ((first|refine qA ?_|apply qB|refine qC ?_|apply qD|apply qE|apply qF|apply qG|apply qH);try simp (maxSteps:=1000000)(disch:=omega) only [go_sem])
 refine W.scope 0 (fun ρ w'=>w'=w∧ρ 5 = .int .i64 0) (fun _ _=>0) rfl ?_ ?_
 rotate_left
 ·rintro ρ w' ⟨rfl,h5⟩
  repeat ((first|refine qA ?_|apply qB|refine qC ?_|apply qD|apply qE|apply qF|apply qG|apply qH|refine W.goto ?_|refine W.label ?_);try simp (maxSteps:=1000000)(disch:=omega) only [go_sem,jumpQ_ret,jumpQ_normal,h5])
 repeat ((first|refine qA ?_|apply qB|refine qC ?_|apply qD|apply qE|apply qF|apply qG|apply qH|refine W.goto ?_|refine W.label ?_);try simp (maxSteps:=1000000)(disch:=omega) only [go_sem,jumpQ_ret,jumpQ_normal,jumpQ_goto,q0,q1,hx,k0,m0,c0,k1,m1,c1,s1,o1,w1])

set_option maxHeartbeats 1000000 in
theorem Uv_out3 {ok:Blocks} (v:Value) (b0:UInt8) (b1:UInt8) (b2:UInt8) (w:World) (h:BytesV ok w v ([b0,b1,b2])) (g0:¬ b0.toNat < 128) (g1:¬ b1.toNat < 128) (g2:¬ b2.toNat < 128):Fn Tryz.prog 83 #[v] w fun r w'=>w'=w∧r = .tuple #[.int .u32 0,.int .i64 (0)]:=by
 obtain ⟨B,o,c,x,rfl,hc,hok,hx,hq⟩:=h.cells (by simp)
 have q0:x.1[o]? = some (.int .u8 b0.toNat):=hq 0 (by simp)
 have q1:x.1[o+1]? = some (.int .u8 b1.toNat):=hq 1 (by simp)
 have q2:x.1[o+2]? = some (.int .u8 b2.toNat):=hq 2 (by simp)
 clear hq h
 have hp0:=u8_lt b0
 generalize b0.toNat=p0 at *
 have hp1:=u8_lt b1
 generalize b1.toNat=p1 at *
 have hp2:=u8_lt b2
 generalize b2.toNat=p2 at *
 have hlt:=blk_lt hx
 have k0:IntKind.u8.wrap (((BitVec.ofInt (kbits .u8) (p0:Int) &&& BitVec.ofInt (kbits .u8) 127).toNat:Nat):Int)=((p0 % 128:Nat):Int):=by rw [and127_u8 (by omega)];exact IntWalk.u8_in _ (by omega)
 have m0:IntKind.u8.wrap (((BitVec.ofInt (kbits .u8) (p0:Int) &&& BitVec.ofInt (kbits .u8) 128).toNat:Nat):Int)=128:=by rw [and128_hi (by omega) (by omega)];rfl
 have c0:IntKind.u32.wrap ((p0 % 128:Nat):Int)=((p0 % 128:Nat):Int):=u32_wrap (by omega)
 obtain ⟨a0,ha0⟩:∃ a,a=p0 % 128:=⟨_,rfl⟩
 have k1:IntKind.u8.wrap (((BitVec.ofInt (kbits .u8) (p1:Int) &&& BitVec.ofInt (kbits .u8) 127).toNat:Nat):Int)=((p1 % 128:Nat):Int):=by rw [and127_u8 (by omega)];exact IntWalk.u8_in _ (by omega)
 have m1:IntKind.u8.wrap (((BitVec.ofInt (kbits .u8) (p1:Int) &&& BitVec.ofInt (kbits .u8) 128).toNat:Nat):Int)=128:=by rw [and128_hi (by omega) (by omega)];rfl
 have c1:IntKind.u32.wrap ((p1 % 128:Nat):Int)=((p1 % 128:Nat):Int):=u32_wrap (by omega)
 have s1:IntKind.u32.wrap (((p1 % 128:Nat):Int) * 2 ^ (min 7 (kbits .u32)))=(((p1 % 128) * 2 ^ 7:Nat):Int):=by
  rw [show (2:Int) ^ (min 7 (kbits .u32))=128 from rfl,show (2:Nat) ^ 7=128 from rfl,u32_wrap (by omega)];omega
 have hA1:p0 % 128 < 2 ^ 7:=by omega
 have o1:(BitVec.ofInt (kbits .u32) ((p0 % 128:Nat):Int) ||| BitVec.ofInt (kbits .u32) (((p1 % 128) * 2 ^ 7:Nat):Int)).toNat=(p1 % 128) * 2 ^ 7+p0 % 128:=or_shift (bits:=32) hA1 (by omega)
 obtain ⟨a1,ha1⟩:∃ a,a=(p1 % 128) * 2 ^ 7+p0 % 128:=⟨_,rfl⟩
 rw [← ha1] at o1
 have w1:IntKind.u32.wrap ((a1:Nat):Int)=((a1:Nat):Int):=u32_wrap (by omega)
 have k2:IntKind.u8.wrap (((BitVec.ofInt (kbits .u8) (p2:Int) &&& BitVec.ofInt (kbits .u8) 127).toNat:Nat):Int)=((p2 % 128:Nat):Int):=by rw [and127_u8 (by omega)];exact IntWalk.u8_in _ (by omega)
 have m2:IntKind.u8.wrap (((BitVec.ofInt (kbits .u8) (p2:Int) &&& BitVec.ofInt (kbits .u8) 128).toNat:Nat):Int)=128:=by rw [and128_hi (by omega) (by omega)];rfl
 have c2:IntKind.u32.wrap ((p2 % 128:Nat):Int)=((p2 % 128:Nat):Int):=u32_wrap (by omega)
 have s2:IntKind.u32.wrap (((p2 % 128:Nat):Int) * 2 ^ (min 14 (kbits .u32)))=(((p2 % 128) * 2 ^ 14:Nat):Int):=by
  rw [show (2:Int) ^ (min 14 (kbits .u32))=16384 from rfl,show (2:Nat) ^ 14=16384 from rfl,u32_wrap (by omega)];omega
 have hA2:a1 < 2 ^ 14:=by omega
 have o2:(BitVec.ofInt (kbits .u32) ((a1:Nat):Int) ||| BitVec.ofInt (kbits .u32) (((p2 % 128) * 2 ^ 14:Nat):Int)).toNat=(p2 % 128) * 2 ^ 14+a1:=or_shift (bits:=32) hA2 (by omega)
 obtain ⟨a2,ha2⟩:∃ a,a=(p2 % 128) * 2 ^ 14+a1:=⟨_,rfl⟩
 rw [← ha2] at o2
 have w2:IntKind.u32.wrap ((a2:Nat):Int)=((a2:Nat):Int):=u32_wrap (by omega)
 refine fn_of_W Tryz.func83 rfl Tryz.results83 Tryz.ntmps83 rfl ?_
 repeat ((first|refine qA ?_|apply qB|refine qC ?_|apply qD|apply qE|apply qF|apply qG|apply qH);try simp (maxSteps:=1000000)(disch:=omega) only [go_sem])
 refine W.scope 0 (fun ρ w'=>w'=w∧ρ 5 = .int .i64 0) (fun _ _=>0) rfl ?_ ?_
 rotate_left
 ·rintro ρ w' ⟨rfl,h5⟩
  repeat ((first|refine qA ?_|apply qB|refine qC ?_|apply qD|apply qE|apply qF|apply qG|apply qH|refine W.goto ?_|refine W.label ?_);try simp (maxSteps:=1000000)(disch:=omega) only [go_sem,jumpQ_ret,jumpQ_normal,h5])
 repeat ((first|refine qA ?_|apply qB|refine qC ?_|apply qD|apply qE|apply qF|apply qG|apply qH|refine W.goto ?_|refine W.label ?_);try simp (maxSteps:=1000000)(disch:=omega) only [go_sem,jumpQ_ret,jumpQ_normal,jumpQ_goto,q0,q1,q2,hx,k0,m0,c0,k1,m1,c1,s1,o1,w1,k2,m2,c2,s2,o2,w2])

set_option maxHeartbeats 1000000 in
theorem Uv_out4 {ok:Blocks} (v:Value) (b0:UInt8) (b1:UInt8) (b2:UInt8) (b3:UInt8) (w:World) (h:BytesV ok w v ([b0,b1,b2,b3])) (g0:¬ b0.toNat < 128) (g1:¬ b1.toNat < 128) (g2:¬ b2.toNat < 128) (g3:¬ b3.toNat < 128):Fn Tryz.prog 83 #[v] w fun r w'=>w'=w∧r = .tuple #[.int .u32 0,.int .i64 (0)]:=by
 obtain ⟨B,o,c,x,rfl,hc,hok,hx,hq⟩:=h.cells (by simp)
 have q0:x.1[o]? = some (.int .u8 b0.toNat):=hq 0 (by simp)
 have q1:x.1[o+1]? = some (.int .u8 b1.toNat):=hq 1 (by simp)
 have q2:x.1[o+2]? = some (.int .u8 b2.toNat):=hq 2 (by simp)
 have q3:x.1[o+3]? = some (.int .u8 b3.toNat):=hq 3 (by simp)
 clear hq h
 have hp0:=u8_lt b0
 generalize b0.toNat=p0 at *
 have hp1:=u8_lt b1
 generalize b1.toNat=p1 at *
 have hp2:=u8_lt b2
 generalize b2.toNat=p2 at *
 have hp3:=u8_lt b3
 generalize b3.toNat=p3 at *
 have hlt:=blk_lt hx
 have k0:IntKind.u8.wrap (((BitVec.ofInt (kbits .u8) (p0:Int) &&& BitVec.ofInt (kbits .u8) 127).toNat:Nat):Int)=((p0 % 128:Nat):Int):=by rw [and127_u8 (by omega)];exact IntWalk.u8_in _ (by omega)
 have m0:IntKind.u8.wrap (((BitVec.ofInt (kbits .u8) (p0:Int) &&& BitVec.ofInt (kbits .u8) 128).toNat:Nat):Int)=128:=by rw [and128_hi (by omega) (by omega)];rfl
 have c0:IntKind.u32.wrap ((p0 % 128:Nat):Int)=((p0 % 128:Nat):Int):=u32_wrap (by omega)
 obtain ⟨a0,ha0⟩:∃ a,a=p0 % 128:=⟨_,rfl⟩
 have k1:IntKind.u8.wrap (((BitVec.ofInt (kbits .u8) (p1:Int) &&& BitVec.ofInt (kbits .u8) 127).toNat:Nat):Int)=((p1 % 128:Nat):Int):=by rw [and127_u8 (by omega)];exact IntWalk.u8_in _ (by omega)
 have m1:IntKind.u8.wrap (((BitVec.ofInt (kbits .u8) (p1:Int) &&& BitVec.ofInt (kbits .u8) 128).toNat:Nat):Int)=128:=by rw [and128_hi (by omega) (by omega)];rfl
 have c1:IntKind.u32.wrap ((p1 % 128:Nat):Int)=((p1 % 128:Nat):Int):=u32_wrap (by omega)
 have s1:IntKind.u32.wrap (((p1 % 128:Nat):Int) * 2 ^ (min 7 (kbits .u32)))=(((p1 % 128) * 2 ^ 7:Nat):Int):=by
  rw [show (2:Int) ^ (min 7 (kbits .u32))=128 from rfl,show (2:Nat) ^ 7=128 from rfl,u32_wrap (by omega)];omega
 have hA1:p0 % 128 < 2 ^ 7:=by omega
 have o1:(BitVec.ofInt (kbits .u32) ((p0 % 128:Nat):Int) ||| BitVec.ofInt (kbits .u32) (((p1 % 128) * 2 ^ 7:Nat):Int)).toNat=(p1 % 128) * 2 ^ 7+p0 % 128:=or_shift (bits:=32) hA1 (by omega)
 obtain ⟨a1,ha1⟩:∃ a,a=(p1 % 128) * 2 ^ 7+p0 % 128:=⟨_,rfl⟩
 rw [← ha1] at o1
 have w1:IntKind.u32.wrap ((a1:Nat):Int)=((a1:Nat):Int):=u32_wrap (by omega)
 have k2:IntKind.u8.wrap (((BitVec.ofInt (kbits .u8) (p2:Int) &&& BitVec.ofInt (kbits .u8) 127).toNat:Nat):Int)=((p2 % 128:Nat):Int):=by rw [and127_u8 (by omega)];exact IntWalk.u8_in _ (by omega)
 have m2:IntKind.u8.wrap (((BitVec.ofInt (kbits .u8) (p2:Int) &&& BitVec.ofInt (kbits .u8) 128).toNat:Nat):Int)=128:=by rw [and128_hi (by omega) (by omega)];rfl
 have c2:IntKind.u32.wrap ((p2 % 128:Nat):Int)=((p2 % 128:Nat):Int):=u32_wrap (by omega)
 have s2:IntKind.u32.wrap (((p2 % 128:Nat):Int) * 2 ^ (min 14 (kbits .u32)))=(((p2 % 128) * 2 ^ 14:Nat):Int):=by
  rw [show (2:Int) ^ (min 14 (kbits .u32))=16384 from rfl,show (2:Nat) ^ 14=16384 from rfl,u32_wrap (by omega)];omega
 have hA2:a1 < 2 ^ 14:=by omega
 have o2:(BitVec.ofInt (kbits .u32) ((a1:Nat):Int) ||| BitVec.ofInt (kbits .u32) (((p2 % 128) * 2 ^ 14:Nat):Int)).toNat=(p2 % 128) * 2 ^ 14+a1:=or_shift (bits:=32) hA2 (by omega)
 obtain ⟨a2,ha2⟩:∃ a,a=(p2 % 128) * 2 ^ 14+a1:=⟨_,rfl⟩
 rw [← ha2] at o2
 have w2:IntKind.u32.wrap ((a2:Nat):Int)=((a2:Nat):Int):=u32_wrap (by omega)
 have k3:IntKind.u8.wrap (((BitVec.ofInt (kbits .u8) (p3:Int) &&& BitVec.ofInt (kbits .u8) 127).toNat:Nat):Int)=((p3 % 128:Nat):Int):=by rw [and127_u8 (by omega)];exact IntWalk.u8_in _ (by omega)
 have m3:IntKind.u8.wrap (((BitVec.ofInt (kbits .u8) (p3:Int) &&& BitVec.ofInt (kbits .u8) 128).toNat:Nat):Int)=128:=by rw [and128_hi (by omega) (by omega)];rfl
 have c3:IntKind.u32.wrap ((p3 % 128:Nat):Int)=((p3 % 128:Nat):Int):=u32_wrap (by omega)
 have s3:IntKind.u32.wrap (((p3 % 128:Nat):Int) * 2 ^ (min 21 (kbits .u32)))=(((p3 % 128) * 2 ^ 21:Nat):Int):=by
  rw [show (2:Int) ^ (min 21 (kbits .u32))=2097152 from rfl,show (2:Nat) ^ 21=2097152 from rfl,u32_wrap (by omega)];omega
 have hA3:a2 < 2 ^ 21:=by omega
 have o3:(BitVec.ofInt (kbits .u32) ((a2:Nat):Int) ||| BitVec.ofInt (kbits .u32) (((p3 % 128) * 2 ^ 21:Nat):Int)).toNat=(p3 % 128) * 2 ^ 21+a2:=or_shift (bits:=32) hA3 (by omega)
 obtain ⟨a3,ha3⟩:∃ a,a=(p3 % 128) * 2 ^ 21+a2:=⟨_,rfl⟩
 rw [← ha3] at o3
 have w3:IntKind.u32.wrap ((a3:Nat):Int)=((a3:Nat):Int):=u32_wrap (by omega)
 refine fn_of_W Tryz.func83 rfl Tryz.results83 Tryz.ntmps83 rfl ?_
 repeat ((first|refine qA ?_|apply qB|refine qC ?_|apply qD|apply qE|apply qF|apply qG|apply qH);try simp (maxSteps:=1000000)(disch:=omega) only [go_sem])
 refine W.scope 0 (fun ρ w'=>w'=w∧ρ 5 = .int .i64 0) (fun _ _=>0) rfl ?_ ?_
 rotate_left
 ·rintro ρ w' ⟨rfl,h5⟩
  repeat ((first|refine qA ?_|apply qB|refine qC ?_|apply qD|apply qE|apply qF|apply qG|apply qH|refine W.goto ?_|refine W.label ?_);try simp (maxSteps:=1000000)(disch:=omega) only [go_sem,jumpQ_ret,jumpQ_normal,h5])
 repeat ((first|refine qA ?_|apply qB|refine qC ?_|apply qD|apply qE|apply qF|apply qG|apply qH|refine W.goto ?_|refine W.label ?_);try simp (maxSteps:=1000000)(disch:=omega) only [go_sem,jumpQ_ret,jumpQ_normal,jumpQ_goto,q0,q1,q2,q3,hx,k0,m0,c0,k1,m1,c1,s1,o1,w1,k2,m2,c2,s2,o2,w2,k3,m3,c3,s3,o3,w3])

set_option maxHeartbeats 1000000 in
theorem Uv_stop0 {ok:Blocks} (v:Value) (b0:UInt8) (rest:List UInt8) (w:World) (h:BytesV ok w v (b0 :: rest))  (gl:b0.toNat < 128):Fn Tryz.prog 83 #[v] w fun r w'=>w'=w∧r = .tuple #[.int .u32 ((b0.toNat:Nat):Int),.int .i64 1]:=by
 obtain ⟨B,o,c,x,rfl,hc,hok,hx,hq⟩:=h.cells (by simp)
 have q0:x.1[o]? = some (.int .u8 b0.toNat):=hq 0 (by simp)
 clear hq h
 have hp0:=u8_lt b0
 generalize b0.toNat=p0 at *
 have hlt:=blk_lt hx
 have k0:IntKind.u8.wrap (((BitVec.ofInt (kbits .u8) (p0:Int) &&& BitVec.ofInt (kbits .u8) 127).toNat:Nat):Int)=((p0 % 128:Nat):Int):=by rw [and127_u8 (by omega)];exact IntWalk.u8_in _ (by omega)
 have m0:IntKind.u8.wrap (((BitVec.ofInt (kbits .u8) (p0:Int) &&& BitVec.ofInt (kbits .u8) 128).toNat:Nat):Int)=0:=by rw [and128_lo (by omega)];rfl
 have c0:IntKind.u32.wrap ((p0 % 128:Nat):Int)=((p0 % 128:Nat):Int):=u32_wrap (by omega)
 obtain ⟨a0,ha0⟩:∃ a,a=p0 % 128:=⟨_,rfl⟩
 refine fn_of_W Tryz.func83 rfl Tryz.results83 Tryz.ntmps83 rfl ?_
 repeat ((first|refine qA ?_|apply qB|refine qC ?_|apply qD|apply qE|apply qF|apply qG|apply qH);try simp (maxSteps:=1000000)(disch:=omega) only [go_sem])
 refine W.scope 0 (fun _ _=>False) (fun _ _=>0) rfl ?_ (fun _ _ h=>h.elim)
 repeat ((first|refine qA ?_|apply qB|refine qC ?_|apply qD|apply qE|apply qF|apply qG|apply qH|refine W.goto ?_|refine W.label ?_);try simp (maxSteps:=1000000)(disch:=omega) only [go_sem,jumpQ_ret,jumpQ_normal,jumpQ_goto,q0,hx,k0,m0,c0])
 rw [show p0 % 128=p0 by omega]

set_option maxHeartbeats 1000000 in
theorem Uv_stop1 {ok:Blocks} (v:Value) (b0:UInt8) (b1:UInt8) (rest:List UInt8) (w:World) (h:BytesV ok w v (b0 :: b1 :: rest)) (g0:¬ b0.toNat < 128) (gl:b1.toNat < 128):Fn Tryz.prog 83 #[v] w fun r w'=>w'=w∧r = .tuple #[.int .u32 (((b0.toNat % 128+128 * b1.toNat):Nat):Int),.int .i64 2]:=by
 obtain ⟨B,o,c,x,rfl,hc,hok,hx,hq⟩:=h.cells (by simp)
 have q0:x.1[o]? = some (.int .u8 b0.toNat):=hq 0 (by simp)
 have q1:x.1[o+1]? = some (.int .u8 b1.toNat):=hq 1 (by simp)
 clear hq h
 have hp0:=u8_lt b0
 generalize b0.toNat=p0 at *
 have hp1:=u8_lt b1
 generalize b1.toNat=p1 at *
 have hlt:=blk_lt hx
 have k0:IntKind.u8.wrap (((BitVec.ofInt (kbits .u8) (p0:Int) &&& BitVec.ofInt (kbits .u8) 127).toNat:Nat):Int)=((p0 % 128:Nat):Int):=by rw [and127_u8 (by omega)];exact IntWalk.u8_in _ (by omega)
 have m0:IntKind.u8.wrap (((BitVec.ofInt (kbits .u8) (p0:Int) &&& BitVec.ofInt (kbits .u8) 128).toNat:Nat):Int)=128:=by rw [and128_hi (by omega) (by omega)];rfl
 have c0:IntKind.u32.wrap ((p0 % 128:Nat):Int)=((p0 % 128:Nat):Int):=u32_wrap (by omega)
 obtain ⟨a0,ha0⟩:∃ a,a=p0 % 128:=⟨_,rfl⟩
 have k1:IntKind.u8.wrap (((BitVec.ofInt (kbits .u8) (p1:Int) &&& BitVec.ofInt (kbits .u8) 127).toNat:Nat):Int)=((p1 % 128:Nat):Int):=by rw [and127_u8 (by omega)];exact IntWalk.u8_in _ (by omega)
 have m1:IntKind.u8.wrap (((BitVec.ofInt (kbits .u8) (p1:Int) &&& BitVec.ofInt (kbits .u8) 128).toNat:Nat):Int)=0:=by rw [and128_lo (by omega)];rfl
 have c1:IntKind.u32.wrap ((p1 % 128:Nat):Int)=((p1 % 128:Nat):Int):=u32_wrap (by omega)
 have s1:IntKind.u32.wrap (((p1 % 128:Nat):Int) * 2 ^ (min 7 (kbits .u32)))=(((p1 % 128) * 2 ^ 7:Nat):Int):=by
  rw [show (2:Int) ^ (min 7 (kbits .u32))=128 from rfl,show (2:Nat) ^ 7=128 from rfl,u32_wrap (by omega)];omega
 have hA1:p0 % 128 < 2 ^ 7:=by omega
 have o1:(BitVec.ofInt (kbits .u32) ((p0 % 128:Nat):Int) ||| BitVec.ofInt (kbits .u32) (((p1 % 128) * 2 ^ 7:Nat):Int)).toNat=(p1 % 128) * 2 ^ 7+p0 % 128:=or_shift (bits:=32) hA1 (by omega)
 obtain ⟨a1,ha1⟩:∃ a,a=(p1 % 128) * 2 ^ 7+p0 % 128:=⟨_,rfl⟩
 rw [← ha1] at o1
 have w1:IntKind.u32.wrap ((a1:Nat):Int)=((a1:Nat):Int):=u32_wrap (by omega)
 refine fn_of_W Tryz.func83 rfl Tryz.results83 Tryz.ntmps83 rfl ?_
 repeat ((first|refine qA ?_|apply qB|refine qC ?_|apply qD|apply qE|apply qF|apply qG|apply qH);try simp (maxSteps:=1000000)(disch:=omega) only [go_sem])
 refine W.scope 0 (fun _ _=>False) (fun _ _=>0) rfl ?_ (fun _ _ h=>h.elim)
 repeat ((first|refine qA ?_|apply qB|refine qC ?_|apply qD|apply qE|apply qF|apply qG|apply qH|refine W.goto ?_|refine W.label ?_);try simp (maxSteps:=1000000)(disch:=omega) only [go_sem,jumpQ_ret,jumpQ_normal,jumpQ_goto,q0,q1,hx,k0,m0,c0,k1,m1,c1,s1,o1,w1])
 have hfin:(p0 % 128+128 * p1)=a1:=by omega
 rw [hfin]

set_option maxHeartbeats 1000000 in
theorem Uv_stop2 {ok:Blocks} (v:Value) (b0:UInt8) (b1:UInt8) (b2:UInt8) (rest:List UInt8) (w:World) (h:BytesV ok w v (b0 :: b1 :: b2 :: rest)) (g0:¬ b0.toNat < 128) (g1:¬ b1.toNat < 128) (gl:b2.toNat < 128):Fn Tryz.prog 83 #[v] w fun r w'=>w'=w∧r = .tuple #[.int .u32 (((b0.toNat % 128+128 * (b1.toNat % 128+128 * b2.toNat)):Nat):Int),.int .i64 3]:=by
 obtain ⟨B,o,c,x,rfl,hc,hok,hx,hq⟩:=h.cells (by simp)
 have q0:x.1[o]? = some (.int .u8 b0.toNat):=hq 0 (by simp)
 have q1:x.1[o+1]? = some (.int .u8 b1.toNat):=hq 1 (by simp)
 have q2:x.1[o+2]? = some (.int .u8 b2.toNat):=hq 2 (by simp)
 clear hq h
 have hp0:=u8_lt b0
 generalize b0.toNat=p0 at *
 have hp1:=u8_lt b1
 generalize b1.toNat=p1 at *
 have hp2:=u8_lt b2
 generalize b2.toNat=p2 at *
 have hlt:=blk_lt hx
 have k0:IntKind.u8.wrap (((BitVec.ofInt (kbits .u8) (p0:Int) &&& BitVec.ofInt (kbits .u8) 127).toNat:Nat):Int)=((p0 % 128:Nat):Int):=by rw [and127_u8 (by omega)];exact IntWalk.u8_in _ (by omega)
 have m0:IntKind.u8.wrap (((BitVec.ofInt (kbits .u8) (p0:Int) &&& BitVec.ofInt (kbits .u8) 128).toNat:Nat):Int)=128:=by rw [and128_hi (by omega) (by omega)];rfl
 have c0:IntKind.u32.wrap ((p0 % 128:Nat):Int)=((p0 % 128:Nat):Int):=u32_wrap (by omega)
 obtain ⟨a0,ha0⟩:∃ a,a=p0 % 128:=⟨_,rfl⟩
 have k1:IntKind.u8.wrap (((BitVec.ofInt (kbits .u8) (p1:Int) &&& BitVec.ofInt (kbits .u8) 127).toNat:Nat):Int)=((p1 % 128:Nat):Int):=by rw [and127_u8 (by omega)];exact IntWalk.u8_in _ (by omega)
 have m1:IntKind.u8.wrap (((BitVec.ofInt (kbits .u8) (p1:Int) &&& BitVec.ofInt (kbits .u8) 128).toNat:Nat):Int)=128:=by rw [and128_hi (by omega) (by omega)];rfl
 have c1:IntKind.u32.wrap ((p1 % 128:Nat):Int)=((p1 % 128:Nat):Int):=u32_wrap (by omega)
 have s1:IntKind.u32.wrap (((p1 % 128:Nat):Int) * 2 ^ (min 7 (kbits .u32)))=(((p1 % 128) * 2 ^ 7:Nat):Int):=by
  rw [show (2:Int) ^ (min 7 (kbits .u32))=128 from rfl,show (2:Nat) ^ 7=128 from rfl,u32_wrap (by omega)];omega
 have hA1:p0 % 128 < 2 ^ 7:=by omega
 have o1:(BitVec.ofInt (kbits .u32) ((p0 % 128:Nat):Int) ||| BitVec.ofInt (kbits .u32) (((p1 % 128) * 2 ^ 7:Nat):Int)).toNat=(p1 % 128) * 2 ^ 7+p0 % 128:=or_shift (bits:=32) hA1 (by omega)
 obtain ⟨a1,ha1⟩:∃ a,a=(p1 % 128) * 2 ^ 7+p0 % 128:=⟨_,rfl⟩
 rw [← ha1] at o1
 have w1:IntKind.u32.wrap ((a1:Nat):Int)=((a1:Nat):Int):=u32_wrap (by omega)
 have k2:IntKind.u8.wrap (((BitVec.ofInt (kbits .u8) (p2:Int) &&& BitVec.ofInt (kbits .u8) 127).toNat:Nat):Int)=((p2 % 128:Nat):Int):=by rw [and127_u8 (by omega)];exact IntWalk.u8_in _ (by omega)
 have m2:IntKind.u8.wrap (((BitVec.ofInt (kbits .u8) (p2:Int) &&& BitVec.ofInt (kbits .u8) 128).toNat:Nat):Int)=0:=by rw [and128_lo (by omega)];rfl
 have c2:IntKind.u32.wrap ((p2 % 128:Nat):Int)=((p2 % 128:Nat):Int):=u32_wrap (by omega)
 have s2:IntKind.u32.wrap (((p2 % 128:Nat):Int) * 2 ^ (min 14 (kbits .u32)))=(((p2 % 128) * 2 ^ 14:Nat):Int):=by
  rw [show (2:Int) ^ (min 14 (kbits .u32))=16384 from rfl,show (2:Nat) ^ 14=16384 from rfl,u32_wrap (by omega)];omega
 have hA2:a1 < 2 ^ 14:=by omega
 have o2:(BitVec.ofInt (kbits .u32) ((a1:Nat):Int) ||| BitVec.ofInt (kbits .u32) (((p2 % 128) * 2 ^ 14:Nat):Int)).toNat=(p2 % 128) * 2 ^ 14+a1:=or_shift (bits:=32) hA2 (by omega)
 obtain ⟨a2,ha2⟩:∃ a,a=(p2 % 128) * 2 ^ 14+a1:=⟨_,rfl⟩
 rw [← ha2] at o2
 have w2:IntKind.u32.wrap ((a2:Nat):Int)=((a2:Nat):Int):=u32_wrap (by omega)
 refine fn_of_W Tryz.func83 rfl Tryz.results83 Tryz.ntmps83 rfl ?_
 repeat ((first|refine qA ?_|apply qB|refine qC ?_|apply qD|apply qE|apply qF|apply qG|apply qH);try simp (maxSteps:=1000000)(disch:=omega) only [go_sem])
 refine W.scope 0 (fun _ _=>False) (fun _ _=>0) rfl ?_ (fun _ _ h=>h.elim)
 repeat ((first|refine qA ?_|apply qB|refine qC ?_|apply qD|apply qE|apply qF|apply qG|apply qH|refine W.goto ?_|refine W.label ?_);try simp (maxSteps:=1000000)(disch:=omega) only [go_sem,jumpQ_ret,jumpQ_normal,jumpQ_goto,q0,q1,q2,hx,k0,m0,c0,k1,m1,c1,s1,o1,w1,k2,m2,c2,s2,o2,w2])
 have hfin:(p0 % 128+128 * (p1 % 128+128 * p2))=a2:=by omega
 rw [hfin]

set_option maxHeartbeats 1000000 in
theorem Uv_stop3 {ok:Blocks} (v:Value) (b0:UInt8) (b1:UInt8) (b2:UInt8) (b3:UInt8) (rest:List UInt8) (w:World) (h:BytesV ok w v (b0 :: b1 :: b2 :: b3 :: rest)) (g0:¬ b0.toNat < 128) (g1:¬ b1.toNat < 128) (g2:¬ b2.toNat < 128) (gl:b3.toNat < 128):Fn Tryz.prog 83 #[v] w fun r w'=>w'=w∧r = .tuple #[.int .u32 (((b0.toNat % 128+128 * (b1.toNat % 128+128 * (b2.toNat % 128+128 * b3.toNat))):Nat):Int),.int .i64 4]:=by
 obtain ⟨B,o,c,x,rfl,hc,hok,hx,hq⟩:=h.cells (by simp)
 have q0:x.1[o]? = some (.int .u8 b0.toNat):=hq 0 (by simp)
 have q1:x.1[o+1]? = some (.int .u8 b1.toNat):=hq 1 (by simp)
 have q2:x.1[o+2]? = some (.int .u8 b2.toNat):=hq 2 (by simp)
 have q3:x.1[o+3]? = some (.int .u8 b3.toNat):=hq 3 (by simp)
 clear hq h
 have hp0:=u8_lt b0
 generalize b0.toNat=p0 at *
 have hp1:=u8_lt b1
 generalize b1.toNat=p1 at *
 have hp2:=u8_lt b2
 generalize b2.toNat=p2 at *
 have hp3:=u8_lt b3
 generalize b3.toNat=p3 at *
 have hlt:=blk_lt hx
 have k0:IntKind.u8.wrap (((BitVec.ofInt (kbits .u8) (p0:Int) &&& BitVec.ofInt (kbits .u8) 127).toNat:Nat):Int)=((p0 % 128:Nat):Int):=by rw [and127_u8 (by omega)];exact IntWalk.u8_in _ (by omega)
 have m0:IntKind.u8.wrap (((BitVec.ofInt (kbits .u8) (p0:Int) &&& BitVec.ofInt (kbits .u8) 128).toNat:Nat):Int)=128:=by rw [and128_hi (by omega) (by omega)];rfl
 have c0:IntKind.u32.wrap ((p0 % 128:Nat):Int)=((p0 % 128:Nat):Int):=u32_wrap (by omega)
 obtain ⟨a0,ha0⟩:∃ a,a=p0 % 128:=⟨_,rfl⟩
 have k1:IntKind.u8.wrap (((BitVec.ofInt (kbits .u8) (p1:Int) &&& BitVec.ofInt (kbits .u8) 127).toNat:Nat):Int)=((p1 % 128:Nat):Int):=by rw [and127_u8 (by omega)];exact IntWalk.u8_in _ (by omega)
 have m1:IntKind.u8.wrap (((BitVec.ofInt (kbits .u8) (p1:Int) &&& BitVec.ofInt (kbits .u8) 128).toNat:Nat):Int)=128:=by rw [and128_hi (by omega) (by omega)];rfl
 have c1:IntKind.u32.wrap ((p1 % 128:Nat):Int)=((p1 % 128:Nat):Int):=u32_wrap (by omega)
 have s1:IntKind.u32.wrap (((p1 % 128:Nat):Int) * 2 ^ (min 7 (kbits .u32)))=(((p1 % 128) * 2 ^ 7:Nat):Int):=by
  rw [show (2:Int) ^ (min 7 (kbits .u32))=128 from rfl,show (2:Nat) ^ 7=128 from rfl,u32_wrap (by omega)];omega
 have hA1:p0 % 128 < 2 ^ 7:=by omega
 have o1:(BitVec.ofInt (kbits .u32) ((p0 % 128:Nat):Int) ||| BitVec.ofInt (kbits .u32) (((p1 % 128) * 2 ^ 7:Nat):Int)).toNat=(p1 % 128) * 2 ^ 7+p0 % 128:=or_shift (bits:=32) hA1 (by omega)
 obtain ⟨a1,ha1⟩:∃ a,a=(p1 % 128) * 2 ^ 7+p0 % 128:=⟨_,rfl⟩
 rw [← ha1] at o1
 have w1:IntKind.u32.wrap ((a1:Nat):Int)=((a1:Nat):Int):=u32_wrap (by omega)
 have k2:IntKind.u8.wrap (((BitVec.ofInt (kbits .u8) (p2:Int) &&& BitVec.ofInt (kbits .u8) 127).toNat:Nat):Int)=((p2 % 128:Nat):Int):=by rw [and127_u8 (by omega)];exact IntWalk.u8_in _ (by omega)
 have m2:IntKind.u8.wrap (((BitVec.ofInt (kbits .u8) (p2:Int) &&& BitVec.ofInt (kbits .u8) 128).toNat:Nat):Int)=128:=by rw [and128_hi (by omega) (by omega)];rfl
 have c2:IntKind.u32.wrap ((p2 % 128:Nat):Int)=((p2 % 128:Nat):Int):=u32_wrap (by omega)
 have s2:IntKind.u32.wrap (((p2 % 128:Nat):Int) * 2 ^ (min 14 (kbits .u32)))=(((p2 % 128) * 2 ^ 14:Nat):Int):=by
  rw [show (2:Int) ^ (min 14 (kbits .u32))=16384 from rfl,show (2:Nat) ^ 14=16384 from rfl,u32_wrap (by omega)];omega
 have hA2:a1 < 2 ^ 14:=by omega
 have o2:(BitVec.ofInt (kbits .u32) ((a1:Nat):Int) ||| BitVec.ofInt (kbits .u32) (((p2 % 128) * 2 ^ 14:Nat):Int)).toNat=(p2 % 128) * 2 ^ 14+a1:=or_shift (bits:=32) hA2 (by omega)
 obtain ⟨a2,ha2⟩:∃ a,a=(p2 % 128) * 2 ^ 14+a1:=⟨_,rfl⟩
 rw [← ha2] at o2
 have w2:IntKind.u32.wrap ((a2:Nat):Int)=((a2:Nat):Int):=u32_wrap (by omega)
 have k3:IntKind.u8.wrap (((BitVec.ofInt (kbits .u8) (p3:Int) &&& BitVec.ofInt (kbits .u8) 127).toNat:Nat):Int)=((p3 % 128:Nat):Int):=by rw [and127_u8 (by omega)];exact IntWalk.u8_in _ (by omega)
 have m3:IntKind.u8.wrap (((BitVec.ofInt (kbits .u8) (p3:Int) &&& BitVec.ofInt (kbits .u8) 128).toNat:Nat):Int)=0:=by rw [and128_lo (by omega)];rfl
 have c3:IntKind.u32.wrap ((p3 % 128:Nat):Int)=((p3 % 128:Nat):Int):=u32_wrap (by omega)
 have s3:IntKind.u32.wrap (((p3 % 128:Nat):Int) * 2 ^ (min 21 (kbits .u32)))=(((p3 % 128) * 2 ^ 21:Nat):Int):=by
  rw [show (2:Int) ^ (min 21 (kbits .u32))=2097152 from rfl,show (2:Nat) ^ 21=2097152 from rfl,u32_wrap (by omega)];omega
 have hA3:a2 < 2 ^ 21:=by omega
 have o3:(BitVec.ofInt (kbits .u32) ((a2:Nat):Int) ||| BitVec.ofInt (kbits .u32) (((p3 % 128) * 2 ^ 21:Nat):Int)).toNat=(p3 % 128) * 2 ^ 21+a2:=or_shift (bits:=32) hA3 (by omega)
 obtain ⟨a3,ha3⟩:∃ a,a=(p3 % 128) * 2 ^ 21+a2:=⟨_,rfl⟩
 rw [← ha3] at o3
 have w3:IntKind.u32.wrap ((a3:Nat):Int)=((a3:Nat):Int):=u32_wrap (by omega)
 refine fn_of_W Tryz.func83 rfl Tryz.results83 Tryz.ntmps83 rfl ?_
 repeat ((first|refine qA ?_|apply qB|refine qC ?_|apply qD|apply qE|apply qF|apply qG|apply qH);try simp (maxSteps:=1000000)(disch:=omega) only [go_sem])
 refine W.scope 0 (fun _ _=>False) (fun _ _=>0) rfl ?_ (fun _ _ h=>h.elim)
 repeat ((first|refine qA ?_|apply qB|refine qC ?_|apply qD|apply qE|apply qF|apply qG|apply qH|refine W.goto ?_|refine W.label ?_);try simp (maxSteps:=1000000)(disch:=omega) only [go_sem,jumpQ_ret,jumpQ_normal,jumpQ_goto,q0,q1,q2,q3,hx,k0,m0,c0,k1,m1,c1,s1,o1,w1,k2,m2,c2,s2,o2,w2,k3,m3,c3,s3,o3,w3])
 have hfin:(p0 % 128+128 * (p1 % 128+128 * (p2 % 128+128 * p3)))=a3:=by omega
 rw [hfin]

set_option maxHeartbeats 1000000 in
theorem Uv_stop4 {ok:Blocks} (v:Value) (b0:UInt8) (b1:UInt8) (b2:UInt8) (b3:UInt8) (b4:UInt8) (rest:List UInt8) (w:World) (h:BytesV ok w v (b0 :: b1 :: b2 :: b3 :: b4 :: rest)) (g0:¬ b0.toNat < 128) (g1:¬ b1.toNat < 128) (g2:¬ b2.toNat < 128) (g3:¬ b3.toNat < 128) (gl:b4.toNat≤15):Fn Tryz.prog 83 #[v] w fun r w'=>w'=w∧r = .tuple #[.int .u32 (((b0.toNat % 128+128 * (b1.toNat % 128+128 * (b2.toNat % 128+128 * (b3.toNat % 128+128 * b4.toNat)))):Nat):Int),.int .i64 5]:=by
 obtain ⟨B,o,c,x,rfl,hc,hok,hx,hq⟩:=h.cells (by simp)
 have q0:x.1[o]? = some (.int .u8 b0.toNat):=hq 0 (by simp)
 have q1:x.1[o+1]? = some (.int .u8 b1.toNat):=hq 1 (by simp)
 have q2:x.1[o+2]? = some (.int .u8 b2.toNat):=hq 2 (by simp)
 have q3:x.1[o+3]? = some (.int .u8 b3.toNat):=hq 3 (by simp)
 have q4:x.1[o+4]? = some (.int .u8 b4.toNat):=hq 4 (by simp)
 clear hq h
 have hp0:=u8_lt b0
 generalize b0.toNat=p0 at *
 have hp1:=u8_lt b1
 generalize b1.toNat=p1 at *
 have hp2:=u8_lt b2
 generalize b2.toNat=p2 at *
 have hp3:=u8_lt b3
 generalize b3.toNat=p3 at *
 have hp4:=u8_lt b4
 generalize b4.toNat=p4 at *
 have hlt:=blk_lt hx
 have k0:IntKind.u8.wrap (((BitVec.ofInt (kbits .u8) (p0:Int) &&& BitVec.ofInt (kbits .u8) 127).toNat:Nat):Int)=((p0 % 128:Nat):Int):=by rw [and127_u8 (by omega)];exact IntWalk.u8_in _ (by omega)
 have m0:IntKind.u8.wrap (((BitVec.ofInt (kbits .u8) (p0:Int) &&& BitVec.ofInt (kbits .u8) 128).toNat:Nat):Int)=128:=by rw [and128_hi (by omega) (by omega)];rfl
 have c0:IntKind.u32.wrap ((p0 % 128:Nat):Int)=((p0 % 128:Nat):Int):=u32_wrap (by omega)
 obtain ⟨a0,ha0⟩:∃ a,a=p0 % 128:=⟨_,rfl⟩
 have k1:IntKind.u8.wrap (((BitVec.ofInt (kbits .u8) (p1:Int) &&& BitVec.ofInt (kbits .u8) 127).toNat:Nat):Int)=((p1 % 128:Nat):Int):=by rw [and127_u8 (by omega)];exact IntWalk.u8_in _ (by omega)
 have m1:IntKind.u8.wrap (((BitVec.ofInt (kbits .u8) (p1:Int) &&& BitVec.ofInt (kbits .u8) 128).toNat:Nat):Int)=128:=by rw [and128_hi (by omega) (by omega)];rfl
 have c1:IntKind.u32.wrap ((p1 % 128:Nat):Int)=((p1 % 128:Nat):Int):=u32_wrap (by omega)
 have s1:IntKind.u32.wrap (((p1 % 128:Nat):Int) * 2 ^ (min 7 (kbits .u32)))=(((p1 % 128) * 2 ^ 7:Nat):Int):=by
  rw [show (2:Int) ^ (min 7 (kbits .u32))=128 from rfl,show (2:Nat) ^ 7=128 from rfl,u32_wrap (by omega)];omega
 have hA1:p0 % 128 < 2 ^ 7:=by omega
 have o1:(BitVec.ofInt (kbits .u32) ((p0 % 128:Nat):Int) ||| BitVec.ofInt (kbits .u32) (((p1 % 128) * 2 ^ 7:Nat):Int)).toNat=(p1 % 128) * 2 ^ 7+p0 % 128:=or_shift (bits:=32) hA1 (by omega)
 obtain ⟨a1,ha1⟩:∃ a,a=(p1 % 128) * 2 ^ 7+p0 % 128:=⟨_,rfl⟩
 rw [← ha1] at o1
 have w1:IntKind.u32.wrap ((a1:Nat):Int)=((a1:Nat):Int):=u32_wrap (by omega)
 have k2:IntKind.u8.wrap (((BitVec.ofInt (kbits .u8) (p2:Int) &&& BitVec.ofInt (kbits .u8) 127).toNat:Nat):Int)=((p2 % 128:Nat):Int):=by rw [and127_u8 (by omega)];exact IntWalk.u8_in _ (by omega)
 have m2:IntKind.u8.wrap (((BitVec.ofInt (kbits .u8) (p2:Int) &&& BitVec.ofInt (kbits .u8) 128).toNat:Nat):Int)=128:=by rw [and128_hi (by omega) (by omega)];rfl
 have c2:IntKind.u32.wrap ((p2 % 128:Nat):Int)=((p2 % 128:Nat):Int):=u32_wrap (by omega)
 have s2:IntKind.u32.wrap (((p2 % 128:Nat):Int) * 2 ^ (min 14 (kbits .u32)))=(((p2 % 128) * 2 ^ 14:Nat):Int):=by
  rw [show (2:Int) ^ (min 14 (kbits .u32))=16384 from rfl,show (2:Nat) ^ 14=16384 from rfl,u32_wrap (by omega)];omega
 have hA2:a1 < 2 ^ 14:=by omega
 have o2:(BitVec.ofInt (kbits .u32) ((a1:Nat):Int) ||| BitVec.ofInt (kbits .u32) (((p2 % 128) * 2 ^ 14:Nat):Int)).toNat=(p2 % 128) * 2 ^ 14+a1:=or_shift (bits:=32) hA2 (by omega)
 obtain ⟨a2,ha2⟩:∃ a,a=(p2 % 128) * 2 ^ 14+a1:=⟨_,rfl⟩
 rw [← ha2] at o2
 have w2:IntKind.u32.wrap ((a2:Nat):Int)=((a2:Nat):Int):=u32_wrap (by omega)
 have k3:IntKind.u8.wrap (((BitVec.ofInt (kbits .u8) (p3:Int) &&& BitVec.ofInt (kbits .u8) 127).toNat:Nat):Int)=((p3 % 128:Nat):Int):=by rw [and127_u8 (by omega)];exact IntWalk.u8_in _ (by omega)
 have m3:IntKind.u8.wrap (((BitVec.ofInt (kbits .u8) (p3:Int) &&& BitVec.ofInt (kbits .u8) 128).toNat:Nat):Int)=128:=by rw [and128_hi (by omega) (by omega)];rfl
 have c3:IntKind.u32.wrap ((p3 % 128:Nat):Int)=((p3 % 128:Nat):Int):=u32_wrap (by omega)
 have s3:IntKind.u32.wrap (((p3 % 128:Nat):Int) * 2 ^ (min 21 (kbits .u32)))=(((p3 % 128) * 2 ^ 21:Nat):Int):=by
  rw [show (2:Int) ^ (min 21 (kbits .u32))=2097152 from rfl,show (2:Nat) ^ 21=2097152 from rfl,u32_wrap (by omega)];omega
 have hA3:a2 < 2 ^ 21:=by omega
 have o3:(BitVec.ofInt (kbits .u32) ((a2:Nat):Int) ||| BitVec.ofInt (kbits .u32) (((p3 % 128) * 2 ^ 21:Nat):Int)).toNat=(p3 % 128) * 2 ^ 21+a2:=or_shift (bits:=32) hA3 (by omega)
 obtain ⟨a3,ha3⟩:∃ a,a=(p3 % 128) * 2 ^ 21+a2:=⟨_,rfl⟩
 rw [← ha3] at o3
 have w3:IntKind.u32.wrap ((a3:Nat):Int)=((a3:Nat):Int):=u32_wrap (by omega)
 have c4:IntKind.u32.wrap (p4:Int)=(p4:Int):=u32_wrap (by omega)
 have s4:IntKind.u32.wrap ((p4:Int) * 2 ^ (min 28 (kbits .u32)))=(((p4) * 2 ^ 28:Nat):Int):=by
  rw [show (2:Int) ^ (min 28 (kbits .u32))=268435456 from rfl,show (2:Nat) ^ 28=268435456 from rfl,u32_wrap (by omega)];omega
 have hA4:a3 < 2 ^ 28:=by omega
 have o4:(BitVec.ofInt (kbits .u32) ((a3:Nat):Int) ||| BitVec.ofInt (kbits .u32) (((p4) * 2 ^ 28:Nat):Int)).toNat=(p4) * 2 ^ 28+a3:=or_shift (bits:=32) hA4 (by omega)
 obtain ⟨a4,ha4⟩:∃ a,a=(p4) * 2 ^ 28+a3:=⟨_,rfl⟩
 rw [← ha4] at o4
 have w4:IntKind.u32.wrap ((a4:Nat):Int)=((a4:Nat):Int):=u32_wrap (by omega)
 refine fn_of_W Tryz.func83 rfl Tryz.results83 Tryz.ntmps83 rfl ?_
 repeat ((first|refine qA ?_|apply qB|refine qC ?_|apply qD|apply qE|apply qF|apply qG|apply qH);try simp (maxSteps:=1000000)(disch:=omega) only [go_sem])
 refine W.scope 0 (fun _ _=>False) (fun _ _=>0) rfl ?_ (fun _ _ h=>h.elim)
 repeat ((first|refine qA ?_|apply qB|refine qC ?_|apply qD|apply qE|apply qF|apply qG|apply qH|refine W.goto ?_|refine W.label ?_);try simp (maxSteps:=1000000)(disch:=omega) only [go_sem,jumpQ_ret,jumpQ_normal,jumpQ_goto,q0,q1,q2,q3,q4,hx,k0,m0,c0,k1,m1,c1,s1,o1,w1,k2,m2,c2,s2,o2,w2,k3,m3,c3,s3,o3,w3,c4,s4,o4,w4])
 have hfin:(p0 % 128+128 * (p1 % 128+128 * (p2 % 128+128 * (p3 % 128+128 * p4))))=a4:=by omega
 rw [hfin]

set_option maxHeartbeats 1000000 in
theorem Uv_over {ok:Blocks} (v:Value) (b0:UInt8) (b1:UInt8) (b2:UInt8) (b3:UInt8) (b4:UInt8) (rest:List UInt8) (w:World) (h:BytesV ok w v (b0 :: b1 :: b2 :: b3 :: b4 :: rest)) (g0:¬ b0.toNat < 128) (g1:¬ b1.toNat < 128) (g2:¬ b2.toNat < 128) (g3:¬ b3.toNat < 128) (gl:¬ b4.toNat≤15):Fn Tryz.prog 83 #[v] w fun r w'=>w'=w∧r = .tuple #[.int .u32 0,.int .i64 (-5)]:=by
 obtain ⟨B,o,c,x,rfl,hc,hok,hx,hq⟩:=h.cells (by simp)
 have q0:x.1[o]? = some (.int .u8 b0.toNat):=hq 0 (by simp)
 have q1:x.1[o+1]? = some (.int .u8 b1.toNat):=hq 1 (by simp)
 have q2:x.1[o+2]? = some (.int .u8 b2.toNat):=hq 2 (by simp)
 have q3:x.1[o+3]? = some (.int .u8 b3.toNat):=hq 3 (by simp)
 have q4:x.1[o+4]? = some (.int .u8 b4.toNat):=hq 4 (by simp)
 clear hq h
 have hp0:=u8_lt b0
 generalize b0.toNat=p0 at *
 have hp1:=u8_lt b1
 generalize b1.toNat=p1 at *
 have hp2:=u8_lt b2
 generalize b2.toNat=p2 at *
 have hp3:=u8_lt b3
 generalize b3.toNat=p3 at *
 have hp4:=u8_lt b4
 generalize b4.toNat=p4 at *
 have hlt:=blk_lt hx
 have k0:IntKind.u8.wrap (((BitVec.ofInt (kbits .u8) (p0:Int) &&& BitVec.ofInt (kbits .u8) 127).toNat:Nat):Int)=((p0 % 128:Nat):Int):=by rw [and127_u8 (by omega)];exact IntWalk.u8_in _ (by omega)
 have m0:IntKind.u8.wrap (((BitVec.ofInt (kbits .u8) (p0:Int) &&& BitVec.ofInt (kbits .u8) 128).toNat:Nat):Int)=128:=by rw [and128_hi (by omega) (by omega)];rfl
 have c0:IntKind.u32.wrap ((p0 % 128:Nat):Int)=((p0 % 128:Nat):Int):=u32_wrap (by omega)
 obtain ⟨a0,ha0⟩:∃ a,a=p0 % 128:=⟨_,rfl⟩
 have k1:IntKind.u8.wrap (((BitVec.ofInt (kbits .u8) (p1:Int) &&& BitVec.ofInt (kbits .u8) 127).toNat:Nat):Int)=((p1 % 128:Nat):Int):=by rw [and127_u8 (by omega)];exact IntWalk.u8_in _ (by omega)
 have m1:IntKind.u8.wrap (((BitVec.ofInt (kbits .u8) (p1:Int) &&& BitVec.ofInt (kbits .u8) 128).toNat:Nat):Int)=128:=by rw [and128_hi (by omega) (by omega)];rfl
 have c1:IntKind.u32.wrap ((p1 % 128:Nat):Int)=((p1 % 128:Nat):Int):=u32_wrap (by omega)
 have s1:IntKind.u32.wrap (((p1 % 128:Nat):Int) * 2 ^ (min 7 (kbits .u32)))=(((p1 % 128) * 2 ^ 7:Nat):Int):=by
  rw [show (2:Int) ^ (min 7 (kbits .u32))=128 from rfl,show (2:Nat) ^ 7=128 from rfl,u32_wrap (by omega)];omega
 have hA1:p0 % 128 < 2 ^ 7:=by omega
 have o1:(BitVec.ofInt (kbits .u32) ((p0 % 128:Nat):Int) ||| BitVec.ofInt (kbits .u32) (((p1 % 128) * 2 ^ 7:Nat):Int)).toNat=(p1 % 128) * 2 ^ 7+p0 % 128:=or_shift (bits:=32) hA1 (by omega)
 obtain ⟨a1,ha1⟩:∃ a,a=(p1 % 128) * 2 ^ 7+p0 % 128:=⟨_,rfl⟩
 rw [← ha1] at o1
 have w1:IntKind.u32.wrap ((a1:Nat):Int)=((a1:Nat):Int):=u32_wrap (by omega)
 have k2:IntKind.u8.wrap (((BitVec.ofInt (kbits .u8) (p2:Int) &&& BitVec.ofInt (kbits .u8) 127).toNat:Nat):Int)=((p2 % 128:Nat):Int):=by rw [and127_u8 (by omega)];exact IntWalk.u8_in _ (by omega)
 have m2:IntKind.u8.wrap (((BitVec.ofInt (kbits .u8) (p2:Int) &&& BitVec.ofInt (kbits .u8) 128).toNat:Nat):Int)=128:=by rw [and128_hi (by omega) (by omega)];rfl
 have c2:IntKind.u32.wrap ((p2 % 128:Nat):Int)=((p2 % 128:Nat):Int):=u32_wrap (by omega)
 have s2:IntKind.u32.wrap (((p2 % 128:Nat):Int) * 2 ^ (min 14 (kbits .u32)))=(((p2 % 128) * 2 ^ 14:Nat):Int):=by
  rw [show (2:Int) ^ (min 14 (kbits .u32))=16384 from rfl,show (2:Nat) ^ 14=16384 from rfl,u32_wrap (by omega)];omega
 have hA2:a1 < 2 ^ 14:=by omega
 have o2:(BitVec.ofInt (kbits .u32) ((a1:Nat):Int) ||| BitVec.ofInt (kbits .u32) (((p2 % 128) * 2 ^ 14:Nat):Int)).toNat=(p2 % 128) * 2 ^ 14+a1:=or_shift (bits:=32) hA2 (by omega)
 obtain ⟨a2,ha2⟩:∃ a,a=(p2 % 128) * 2 ^ 14+a1:=⟨_,rfl⟩
 rw [← ha2] at o2
 have w2:IntKind.u32.wrap ((a2:Nat):Int)=((a2:Nat):Int):=u32_wrap (by omega)
 have k3:IntKind.u8.wrap (((BitVec.ofInt (kbits .u8) (p3:Int) &&& BitVec.ofInt (kbits .u8) 127).toNat:Nat):Int)=((p3 % 128:Nat):Int):=by rw [and127_u8 (by omega)];exact IntWalk.u8_in _ (by omega)
 have m3:IntKind.u8.wrap (((BitVec.ofInt (kbits .u8) (p3:Int) &&& BitVec.ofInt (kbits .u8) 128).toNat:Nat):Int)=128:=by rw [and128_hi (by omega) (by omega)];rfl
 have c3:IntKind.u32.wrap ((p3 % 128:Nat):Int)=((p3 % 128:Nat):Int):=u32_wrap (by omega)
 have s3:IntKind.u32.wrap (((p3 % 128:Nat):Int) * 2 ^ (min 21 (kbits .u32)))=(((p3 % 128) * 2 ^ 21:Nat):Int):=by
  rw [show (2:Int) ^ (min 21 (kbits .u32))=2097152 from rfl,show (2:Nat) ^ 21=2097152 from rfl,u32_wrap (by omega)];omega
 have hA3:a2 < 2 ^ 21:=by omega
 have o3:(BitVec.ofInt (kbits .u32) ((a2:Nat):Int) ||| BitVec.ofInt (kbits .u32) (((p3 % 128) * 2 ^ 21:Nat):Int)).toNat=(p3 % 128) * 2 ^ 21+a2:=or_shift (bits:=32) hA3 (by omega)
 obtain ⟨a3,ha3⟩:∃ a,a=(p3 % 128) * 2 ^ 21+a2:=⟨_,rfl⟩
 rw [← ha3] at o3
 have w3:IntKind.u32.wrap ((a3:Nat):Int)=((a3:Nat):Int):=u32_wrap (by omega)
 have c4:IntKind.u32.wrap (p4:Int)=(p4:Int):=u32_wrap (by omega)
 refine fn_of_W Tryz.func83 rfl Tryz.results83 Tryz.ntmps83 rfl ?_
 repeat ((first|refine qA ?_|apply qB|refine qC ?_|apply qD|apply qE|apply qF|apply qG|apply qH);try simp (maxSteps:=1000000)(disch:=omega) only [go_sem])
 refine W.scope 0 (fun _ _=>False) (fun _ _=>0) rfl ?_ (fun _ _ h=>h.elim)
 repeat ((first|refine qA ?_|apply qB|refine qC ?_|apply qD|apply qE|apply qF|apply qG|apply qH|refine W.goto ?_|refine W.label ?_);try simp (maxSteps:=1000000)(disch:=omega) only [go_sem,jumpQ_ret,jumpQ_normal,jumpQ_goto,q0,q1,q2,q3,q4,hx,k0,m0,c0,k1,m1,c1,s1,o1,w1,k2,m2,c2,s2,o2,w2,k3,m3,c3,s3,o3,w3,c4])

theorem KUvarint_fn {ok:Blocks} (v:Value) (s:List UInt8) (w:World) (h:BytesV ok w v s) :
  Fn Tryz.prog 83 #[v] w fun r w'=>w'=w∧(match uvD 4 s with|some x=>r = .tuple #[.int .u32 (x.1:Nat),.int .i64 ((s.length - x.2.length:Nat):Int)]∧x.1 < 4294967296∧x.2.length < s.length∧s.drop (s.length - x.2.length)=x.2|none=>∃ k:Int,k≤0∧r = .tuple #[.int .u32 0,.int .i64 k]):=by
 cases s with
 | nil =>
  have hu:uvD 4 ([])=none:=by simp [uvD]
  rw [hu]
  refine (Uv_out0 v  w h ).mono ?_
  rintro _ _ ⟨rfl,rfl⟩
  exact ⟨rfl,0,by decide,rfl⟩
 | cons b0 s =>
  by_cases gl:b0.toNat < 128
  ·
   have hu:uvD 4 (b0 :: s)=some (b0.toNat,s):=by simp [uvD,gl]
   rw [hu]
   refine (Uv_stop0 v b0 s w h gl).mono ?_
   rintro _ _ ⟨rfl,rfl⟩
   have hl:(b0 :: s).length - s.length=1:=by simp only [List.length_cons];omega
   exact ⟨rfl,by rw [hl];rfl,uvD_lt hu,uvD_some hu⟩
  ·have g0:=gl
   clear gl
   cases s with
   | nil =>
    have hu:uvD 4 ([b0])=none:=by simp [uvD,g0]
    rw [hu]
    refine (Uv_out1 v b0 w h g0).mono ?_
    rintro _ _ ⟨rfl,rfl⟩
    exact ⟨rfl,0,by decide,rfl⟩
   | cons b1 s =>
    by_cases gl:b1.toNat < 128
    ·
     have hu:uvD 4 (b0 :: b1 :: s)=some ((b0.toNat % 128+128 * b1.toNat),s):=by simp [uvD,g0,gl]
     rw [hu]
     refine (Uv_stop1 v b0 b1 s w h g0 gl).mono ?_
     rintro _ _ ⟨rfl,rfl⟩
     have hl:(b0 :: b1 :: s).length - s.length=2:=by simp only [List.length_cons];omega
     exact ⟨rfl,by rw [hl];rfl,uvD_lt hu,uvD_some hu⟩
    ·have g1:=gl
     clear gl
     cases s with
     | nil =>
      have hu:uvD 4 ([b0,b1])=none:=by simp [uvD,g0,g1]
      rw [hu]
      refine (Uv_out2 v b0 b1 w h g0 g1).mono ?_
      rintro _ _ ⟨rfl,rfl⟩
      exact ⟨rfl,0,by decide,rfl⟩
     | cons b2 s =>
      by_cases gl:b2.toNat < 128
      ·
       have hu:uvD 4 (b0 :: b1 :: b2 :: s)=some ((b0.toNat % 128+128 * (b1.toNat % 128+128 * b2.toNat)),s):=by simp [uvD,g0,g1,gl]
       rw [hu]
       refine (Uv_stop2 v b0 b1 b2 s w h g0 g1 gl).mono ?_
       rintro _ _ ⟨rfl,rfl⟩
       have hl:(b0 :: b1 :: b2 :: s).length - s.length=3:=by simp only [List.length_cons];omega
       exact ⟨rfl,by rw [hl];rfl,uvD_lt hu,uvD_some hu⟩
      ·have g2:=gl
       clear gl
       cases s with
       | nil =>
        have hu:uvD 4 ([b0,b1,b2])=none:=by simp [uvD,g0,g1,g2]
        rw [hu]
        refine (Uv_out3 v b0 b1 b2 w h g0 g1 g2).mono ?_
        rintro _ _ ⟨rfl,rfl⟩
        exact ⟨rfl,0,by decide,rfl⟩
       | cons b3 s =>
        by_cases gl:b3.toNat < 128
        ·
         have hu:uvD 4 (b0 :: b1 :: b2 :: b3 :: s)=some ((b0.toNat % 128+128 * (b1.toNat % 128+128 * (b2.toNat % 128+128 * b3.toNat))),s):=by simp [uvD,g0,g1,g2,gl]
         rw [hu]
         refine (Uv_stop3 v b0 b1 b2 b3 s w h g0 g1 g2 gl).mono ?_
         rintro _ _ ⟨rfl,rfl⟩
         have hl:(b0 :: b1 :: b2 :: b3 :: s).length - s.length=4:=by simp only [List.length_cons];omega
         exact ⟨rfl,by rw [hl];rfl,uvD_lt hu,uvD_some hu⟩
        ·have g3:=gl
         clear gl
         cases s with
         | nil =>
          have hu:uvD 4 ([b0,b1,b2,b3])=none:=by simp [uvD,g0,g1,g2,g3]
          rw [hu]
          refine (Uv_out4 v b0 b1 b2 b3 w h g0 g1 g2 g3).mono ?_
          rintro _ _ ⟨rfl,rfl⟩
          exact ⟨rfl,0,by decide,rfl⟩
         | cons b4 s =>
          by_cases gl:b4.toNat≤15
          ·
           have hu:uvD 4 (b0 :: b1 :: b2 :: b3 :: b4 :: s)=some ((b0.toNat % 128+128 * (b1.toNat % 128+128 * (b2.toNat % 128+128 * (b3.toNat % 128+128 * b4.toNat)))),s):=by simp [uvD,g0,g1,g2,g3,gl]
           rw [hu]
           refine (Uv_stop4 v b0 b1 b2 b3 b4 s w h g0 g1 g2 g3 gl).mono ?_
           rintro _ _ ⟨rfl,rfl⟩
           have hl:(b0 :: b1 :: b2 :: b3 :: b4 :: s).length - s.length=5:=by simp only [List.length_cons];omega
           exact ⟨rfl,by rw [hl];rfl,uvD_lt hu,uvD_some hu⟩
          ·
           have hu:uvD 4 (b0 :: b1 :: b2 :: b3 :: b4 :: s)=none:=by simp [uvD,g0,g1,g2,g3,gl]
           rw [hu]
           refine (Uv_over v b0 b1 b2 b3 b4 s w h g0 g1 g2 g3 gl).mono ?_
           rintro _ _ ⟨rfl,rfl⟩
           exact ⟨rfl,-5,by decide,rfl⟩

abbrev RT : TypeId:=104
def GloBE (w:World):Prop:=∃ x,blk w 0=some x
theorem GloBE.upd {w w':World} {rb:Nat} (h:GloBE w) (u:Upd (fun b=>b=rb) w w') (hr:¬ 0=rb):GloBE w':=by
 obtain ⟨x,h⟩:=h;exact ⟨x,u.blk_some h hr⟩
theorem GloBE.ext {w w':World} (h:GloBE w) (u:Ext w w'):GloBE w':=by
 obtain ⟨x,h⟩:=h;exact ⟨x,u.blk_some h id⟩

theorem Int16_fn {ok:Blocks} {rb:Nat} {st:St} (w:World) (h:Rdr RT ok w rb st) (hr:¬ ok rb) (hg:GloBE w) (hrg:¬ 0=rb) :
  Fn Tryz.prog 81 #[.pointer (some ⟨rb,0,none⟩)] w (RdQ RT ok rb w (.int .i16 (rdInt .i16 2 st).1) (rdInt .i16 2 st).2):=by
 obtain ⟨v,hb,hB,hn⟩:=h.ex
 obtain ⟨a,c,rfl,hc⟩:=hB.shape
 have hbl:=blk_lt hb
 by_cases hf:stLen st < 2
 ·have hf2:(st.getD []).length < 2:=hf
  rw [rdInt,rdN_few hf]
  refine fn_of_W Tryz.func81 rfl Tryz.results81 Tryz.ntmps81 rfl ?_
  repeat ((first|refine qA ?_|apply qB|refine qC ?_|apply qD|apply qE|apply qF|apply qG|apply qH);try simp (maxSteps:=1000000)(disch:=(first|omega|(simp only [qI,qJ,qK]<;>omega)|exact qL _)) only [go_sem,hb])
  exact RdQ.bad hb
 ·obtain ⟨s,rfl,hs⟩:=st_some hf
  simp only [Option.getD_some,isNone_some_st] at hb hB hc
  rw [rdInt,rdN_some hs]
  simp only [Option.getD_some]
  obtain ⟨xg,hg⟩:=hg
  have hgl:=blk_lt hg
  have hz:xg.1.extract 0 0=#[]:=by simp
  refine fn_of_W Tryz.func81 rfl Tryz.results81 Tryz.ntmps81 rfl ?_
  repeat ((first|refine qA ?_|apply qB|refine qC ?_|apply qD|apply qE|apply qF|apply qG|apply qH);try simp (maxSteps:=1000000)(disch:=(first|omega|(simp only [qI,qJ,qK]<;>omega)|exact qL _)) only [go_sem,hb,hg,hz])
  refine W.drawR (.take 0 (.take 1 (.take 2 (.take 3 (.take 4 (.only 5 (.take 6 (.only 7 .done)))))))) NoB mixed (by kernel_rfl) ?_
  simp (maxSteps:=1000000)(disch:=(first|omega|(simp only [qI,qJ,qK]<;>omega)|exact qL _)) only [go_sem,hb,hg,hz]
  have hEd:Ext w w.drew:=(Upd.refl _ _).drew
  refine (BE16_fn (ok:=ok) _ s w.drew (hB.keep (hEd.keeps _)) hs).mono ?_
  rintro r5 w1 ⟨rfl,hE1⟩
  have hE:=hEd.trans hE1
  have hb1:=hE.blk_some hb id
  refine ⟨hE1,?_⟩
  simp (maxSteps:=1000000)(disch:=(first|omega|(simp only [qI,qJ,qK]<;>omega)|exact qL _)) only [go_sem,hb1]
  refine ⟨hE1,?_⟩
  repeat ((first|refine qA ?_|apply qB|refine qC ?_|apply qD|apply qE|apply qF|apply qG|apply qH);try simp (maxSteps:=1000000)(disch:=(first|omega|(simp only [qI,qJ,qK]<;>omega)|exact qL _)) only [go_sem,hb1])
  exact RdQ.good hE hb hB hr hs (by omega)

theorem Int32_fn {ok:Blocks} {rb:Nat} {st:St} (w:World) (h:Rdr RT ok w rb st) (hr:¬ ok rb) (hg:GloBE w) (hrg:¬ 0=rb) :
  Fn Tryz.prog 42 #[.pointer (some ⟨rb,0,none⟩)] w (RdQ RT ok rb w (.int .i32 (rdInt .i32 4 st).1) (rdInt .i32 4 st).2):=by
 obtain ⟨v,hb,hB,hn⟩:=h.ex
 obtain ⟨a,c,rfl,hc⟩:=hB.shape
 have hbl:=blk_lt hb
 by_cases hf:stLen st < 4
 ·have hf2:(st.getD []).length < 4:=hf
  rw [rdInt,rdN_few hf]
  refine fn_of_W Tryz.func42 rfl Tryz.results42 Tryz.ntmps42 rfl ?_
  repeat ((first|refine qA ?_|apply qB|refine qC ?_|apply qD|apply qE|apply qF|apply qG|apply qH);try simp (maxSteps:=1000000)(disch:=(first|omega|(simp only [qI,qJ,qK]<;>omega)|exact qL _)) only [go_sem,hb])
  exact RdQ.bad hb
 ·obtain ⟨s,rfl,hs⟩:=st_some hf
  simp only [Option.getD_some,isNone_some_st] at hb hB hc
  rw [rdInt,rdN_some hs]
  simp only [Option.getD_some]
  obtain ⟨xg,hg⟩:=hg
  have hgl:=blk_lt hg
  have hz:xg.1.extract 0 0=#[]:=by simp
  refine fn_of_W Tryz.func42 rfl Tryz.results42 Tryz.ntmps42 rfl ?_
  repeat ((first|refine qA ?_|apply qB|refine qC ?_|apply qD|apply qE|apply qF|apply qG|apply qH);try simp (maxSteps:=1000000)(disch:=(first|omega|(simp only [qI,qJ,qK]<;>omega)|exact qL _)) only [go_sem,hb,hg,hz])
  refine W.drawR (.take 0 (.take 1 (.take 2 (.take 3 (.take 4 (.only 5 (.take 6 (.only 7 .done)))))))) NoB mixed (by kernel_rfl) ?_
  simp (maxSteps:=1000000)(disch:=(first|omega|(simp only [qI,qJ,qK]<;>omega)|exact qL _)) only [go_sem,hb,hg,hz]
  have hEd:Ext w w.drew:=(Upd.refl _ _).drew
  refine (BE32_fn (ok:=ok) _ s w.drew (hB.keep (hEd.keeps _)) hs).mono ?_
  rintro r5 w1 ⟨rfl,hE1⟩
  have hE:=hEd.trans hE1
  have hb1:=hE.blk_some hb id
  refine ⟨hE1,?_⟩
  simp (maxSteps:=1000000)(disch:=(first|omega|(simp only [qI,qJ,qK]<;>omega)|exact qL _)) only [go_sem,hb1]
  refine ⟨hE1,?_⟩
  repeat ((first|refine qA ?_|apply qB|refine qC ?_|apply qD|apply qE|apply qF|apply qG|apply qH);try simp (maxSteps:=1000000)(disch:=(first|omega|(simp only [qI,qJ,qK]<;>omega)|exact qL _)) only [go_sem,hb1])
  exact RdQ.good hE hb hB hr hs (by omega)

theorem readUint64_fn {ok:Blocks} {rb:Nat} {st:St} (w:World) (h:Rdr RT ok w rb st) (hr:¬ ok rb) (hg:GloBE w) (hrg:¬ 0=rb) :
  Fn Tryz.prog 82 #[.pointer (some ⟨rb,0,none⟩)] w (RdQ RT ok rb w (.int .u64 (rdInt .u64 8 st).1) (rdInt .u64 8 st).2):=by
 obtain ⟨v,hb,hB,hn⟩:=h.ex
 obtain ⟨a,c,rfl,hc⟩:=hB.shape
 have hbl:=blk_lt hb
 by_cases hf:stLen st < 8
 ·have hf2:(st.getD []).length < 8:=hf
  rw [rdInt,rdN_few hf]
  refine fn_of_W Tryz.func82 rfl Tryz.results82 Tryz.ntmps82 rfl ?_
  repeat ((first|refine qA ?_|apply qB|refine qC ?_|apply qD|apply qE|apply qF|apply qG|apply qH);try simp (maxSteps:=1000000)(disch:=(first|omega|(simp only [qI,qJ,qK]<;>omega)|exact qL _)) only [go_sem,hb])
  exact RdQ.bad hb
 ·obtain ⟨s,rfl,hs⟩:=st_some hf
  simp only [Option.getD_some,isNone_some_st] at hb hB hc
  rw [rdInt,rdN_some hs]
  simp only [Option.getD_some]
  obtain ⟨xg,hg⟩:=hg
  have hgl:=blk_lt hg
  have hz:xg.1.extract 0 0=#[]:=by simp
  refine fn_of_W Tryz.func82 rfl Tryz.results82 Tryz.ntmps82 rfl ?_
  repeat ((first|refine qA ?_|apply qB|refine qC ?_|apply qD|apply qE|apply qF|apply qG|apply qH);try simp (maxSteps:=1000000)(disch:=(first|omega|(simp only [qI,qJ,qK]<;>omega)|exact qL _)) only [go_sem,hb,hg,hz])
  refine W.drawR (.take 0 (.take 1 (.take 2 (.take 3 (.take 4 (.only 5 (.only 6 .done))))))) NoB mixed (by kernel_rfl) ?_
  simp (maxSteps:=1000000)(disch:=(first|omega|(simp only [qI,qJ,qK]<;>omega)|exact qL _)) only [go_sem,hb,hg,hz]
  have hEd:Ext w w.drew:=(Upd.refl _ _).drew
  refine (BE64_fn (ok:=ok) _ s w.drew (hB.keep (hEd.keeps _)) hs).mono ?_
  rintro r5 w1 ⟨rfl,hE1⟩
  have hE:=hEd.trans hE1
  have hb1:=hE.blk_some hb id
  refine ⟨hE1,?_⟩
  have hw:IntKind.u64.wrap ((beN (s.take 8):Nat):Int)=(beN (s.take 8):Nat):=by
   have:=beN_take_lt s 8
   unfold IntKind.wrap;simp [IntKind.bits,IntKind.signed];omega
  rw [hw]
  refine ⟨hE1,?_⟩
  repeat ((first|refine qA ?_|apply qB|refine qC ?_|apply qD|apply qE|apply qF|apply qG|apply qH);try simp (maxSteps:=1000000)(disch:=(first|omega|(simp only [qI,qJ,qK]<;>omega)|exact qL _)) only [go_sem,hb1])
  exact RdQ.good hE hb hB hr hs (by omega)

theorem Int64_fn {ok:Blocks} {rb:Nat} {st:St} (w:World) (h:Rdr RT ok w rb st) (hr:¬ ok rb) (hg:GloBE w) (hrg:¬ 0=rb) :
  Fn Tryz.prog 55 #[.pointer (some ⟨rb,0,none⟩)] w (RdQ RT ok rb w (.int .i64 (rdInt .i64 8 st).1) (rdInt .i64 8 st).2):=by
 refine fn_of_W Tryz.func55 rfl Tryz.results55 Tryz.ntmps55 rfl ?_
 repeat ((first|refine qA ?_|apply qB|refine qC ?_|apply qD|apply qE|apply qF|apply qG|apply qH);try simp (maxSteps:=1000000)(disch:=(first|omega|(simp only [qI,qJ,qK]<;>omega)|exact qL _)) only [go_sem])
 refine (readUint64_fn w h hr hg hrg).mono ?_
 rintro _ w1 ⟨rfl,h1,hu⟩
 have hw:IntKind.i64.wrap (rdInt .u64 8 st).1=(rdInt .i64 8 st).1:=by
  unfold rdInt IntKind.wrap;simp [IntKind.bits,IntKind.signed]
 repeat ((first|refine qA ?_|apply qB|refine qC ?_|apply qD|apply qE|apply qF|apply qG|apply qH);try simp (maxSteps:=1000000)(disch:=(first|omega|(simp only [qI,qJ,qK]<;>omega)|exact qL _)) only [go_sem,hw])
 exact ⟨rfl,h1,hu⟩

theorem Int8_fn {ok:Blocks} {rb:Nat} {st:St} (w:World) (h:Rdr RT ok w rb st) (hr:¬ ok rb) :
  Fn Tryz.prog 43 #[.pointer (some ⟨rb,0,none⟩)] w (RdQ RT ok rb w (.int .i8 (rdInt .i8 1 st).1) (rdInt .i8 1 st).2):=by
 obtain ⟨v,hb,hB,hn⟩:=h.ex
 obtain ⟨a,c,rfl,hc⟩:=hB.shape
 have hbl:=blk_lt hb
 by_cases hf:stLen st < 1
 ·have hf2:(st.getD []).length < 1:=hf
  rw [rdInt,rdN_few hf]
  refine fn_of_W Tryz.func43 rfl Tryz.results43 Tryz.ntmps43 rfl ?_
  repeat ((first|refine qA ?_|apply qB|refine qC ?_|apply qD|apply qE|apply qF|apply qG|apply qH);try simp (maxSteps:=1000000)(disch:=(first|omega|(simp only [qI,qJ,qK]<;>omega)|exact qL _)) only [go_sem,hb])
  exact RdQ.bad hb
 ·obtain ⟨s,rfl,hs⟩:=st_some hf
  simp only [Option.getD_some,isNone_some_st] at hb hB hc
  rw [rdInt,rdN_some hs]
  obtain ⟨B,o,c',x,hv,hc',hok,hx,hq⟩:=hB.cells (by intro h0;rw [h0] at hs;simp at hs)
  cases hv
  have q0:=hq 0 (by omega)
  rw [Nat.add_zero] at q0
  have hbe:beN (s.take 1)=s[0].toNat:=by
   cases s with
   | nil=>simp at hs
   | cons b s=>simp [beN]
  simp only [hbe]
  have hlt:=blk_lt hx
  have hp:=u8_lt s[0]
  generalize s[0].toNat=p at *
  refine fn_of_W Tryz.func43 rfl Tryz.results43 Tryz.ntmps43 rfl ?_
  repeat ((first|refine qA ?_|apply qB|refine qC ?_|apply qD|apply qE|apply qF|apply qG|apply qH);try simp (maxSteps:=1000000)(disch:=(first|omega|(simp only [qI,qJ,qK]<;>omega)|exact qL _)) only [go_sem,hb,hx,q0])
  exact RdQ.good (Upd.refl _ _) hb hB hr hs (by omega)

theorem Span_fn {ok:Blocks} {rb:Nat} {st:St} (w:World) (h:Rdr RT ok w rb st) (hr:¬ ok rb) (l:Int) :
  Fn Tryz.prog 58 #[.pointer (some ⟨rb,0,none⟩),.int .i64 l] w (SpanQ RT ok rb w st (rdSpan l st).2 l (rdSpan l st).1):=by
 obtain ⟨v,hb,hB,hn⟩:=h.ex
 obtain ⟨a,c,rfl,hc⟩:=hB.shape
 have hbl:=blk_lt hb
 by_cases hf:l < 0∨(stLen st:Int) < l
 ·rw [rdSpan_bad hf]
  by_cases hl:(stLen st:Int) < l
  ·have hl2:((st.getD []).length:Int) < l:=hl
   refine fn_of_W Tryz.func58 rfl Tryz.results58 Tryz.ntmps58 rfl ?_
   repeat ((first|refine qA ?_|apply qB|refine qC ?_|apply qD|apply qE|apply qF|apply qG|apply qH);try simp (maxSteps:=1000000)(disch:=(first|omega|(simp only [qI,qJ,qK]<;>omega)|exact qL _)) only [go_sem,hb])
   exact SpanQ.bad hb
  ·have hl2:¬ ((st.getD []).length:Int) < l:=hl
   have hl3:l < 0:=hf.resolve_right hl
   refine fn_of_W Tryz.func58 rfl Tryz.results58 Tryz.ntmps58 rfl ?_
   repeat ((first|refine qA ?_|apply qB|refine qC ?_|apply qD|apply qE|apply qF|apply qG|apply qH);try simp (maxSteps:=1000000)(disch:=(first|omega|(simp only [qI,qJ,qK]<;>omega)|exact qL _)) only [go_sem,hb])
   exact SpanQ.bad hb
 ·have hl1:0≤l:=by omega
  have hl2:l≤((st.getD []).length:Int):=by have:(st.getD []).length=stLen st:=rfl;omega
  obtain ⟨k,rfl⟩:∃ k:Nat,l=k:=⟨l.toNat,by omega⟩
  have hk:k≤(st.getD []).length:=by omega
  have hl3:¬ ((st.getD []).length:Int) < (k:Int):=by omega
  have hl4:¬ (k:Int) < 0:=by omega
  have hk2:k≤c:=by omega
  cases st with
  | none =>
   have:=hn rfl
   cases this
   have hk0:k=0:=by simpa using hk
   subst hk0
   refine fn_of_W Tryz.func58 rfl Tryz.results58 Tryz.ntmps58 rfl ?_
   repeat ((first|refine qA ?_|apply qB|refine qC ?_|apply qD|apply qE|apply qF|apply qG|apply qH);try simp (maxSteps:=1000000)(disch:=(first|omega|(simp only [qI,qJ,qK]<;>omega)|exact qL _)) only [go_sem,hb,Int.toNat_natCast])
   exact SpanQ.zero hb
  | some s =>
   simp only [Option.getD_some,isNone_some_st] at hb hB hc hk hl2 hl3
   rw [rdSpan_good hk]
   refine fn_of_W Tryz.func58 rfl Tryz.results58 Tryz.ntmps58 rfl ?_
   repeat ((first|refine qA ?_|apply qB|refine qC ?_|apply qD|apply qE|apply qF|apply qG|apply qH);try simp (maxSteps:=1000000)(disch:=(first|omega|(simp only [qI,qJ,qK]<;>omega)|exact qL _)) only [go_sem,hb,Int.toNat_natCast,Nat.sub_zero])
   exact SpanQ.good hb hB hr hk

theorem rdUv_of {s:List UInt8}:rdUv (some s)=match uvD 4 s with|some x=>(x.1,some x.2)|none=>(0,none):=rfl
theorem RUvarint_fn {ok:Blocks} {rb:Nat} {st:St} (w:World) (h:Rdr RT ok w rb st) (hr:¬ ok rb) :
  Fn Tryz.prog 56 #[.pointer (some ⟨rb,0,none⟩)] w (RdQ RT ok rb w (.int .u32 (rdUv st).1) (rdUv st).2):=by
 obtain ⟨v,hb,hB,hn⟩:=h.ex
 obtain ⟨a,c,rfl,hc⟩:=hB.shape
 have hbl:=blk_lt hb
 refine fn_of_W Tryz.func56 rfl Tryz.results56 Tryz.ntmps56 rfl ?_
 repeat ((first|refine qA ?_|apply qB|refine qC ?_|apply qD|apply qE|apply qF|apply qG|apply qH);try simp (maxSteps:=1000000)(disch:=(first|omega|(simp only [qI,qJ,qK]<;>omega)|exact qL _)) only [go_sem,hb])
 refine (KUvarint_fn (ok:=ok) _ (st.getD []) w hB).mono ?_
 rintro r1 w1 ⟨rfl,hr1⟩
 cases hu:uvD 4 (st.getD []) with
 | none =>
  rw [hu] at hr1
  obtain ⟨k,hk,rfl⟩:=hr1
  have hst:rdUv st=(0,none):=by
   cases st with
   | none=>rfl
   | some s=>rw [rdUv_of];simp only [Option.getD_some] at hu;rw [hu]
  rw [hst]
  repeat ((first|refine qA ?_|apply qB|refine qC ?_|apply qD|apply qE|apply qF|apply qG|apply qH);try simp (maxSteps:=1000000)(disch:=(first|omega|(simp only [qI,qJ,qK]<;>omega)|exact qL _)) only [go_sem,hb])
  exact RdQ.bad hb
 | some x =>
  rw [hu] at hr1
  obtain ⟨rfl,h3,aA,a8⟩:=hr1
  cases st with
  | none=>simp [uvD] at hu
  | some s =>
   simp only [Option.getD_some,isNone_some_st] at hb hB hc hu aA a8 ⊢
   rw [rdUv_of,hu]
   have h5:¬ ((s.length - x.2.length:Nat):Int)≤0:=by omega
   have h6:=RdQ.good (val:=.int .u32 x.1) (k:=s.length - x.2.length) (Upd.refl _ _:Ext w1 w1) hb hB hr (by omega) (by omega)
   rw [a8] at h6
   repeat ((first|refine qA ?_|apply qB|refine qC ?_|apply qD|apply qE|apply qF|apply qG|apply qH);try simp (maxSteps:=1000000)(disch:=(first|omega|(simp only [qI,qJ,qK]<;>omega)|exact qL _)) only [go_sem,hb,h5,Int.toNat_natCast,List.getElem_toArray,List.getElem_cons_succ,List.getElem_cons_zero])
   exact h6

end Ms

