/- A part of the proof: see the last text. -/
import Derived.Laws.IdiomStrings
import Derived.Test.YtfeaoncgnhhjbaeGreatDoorC05
import Derived.Test.YtfeaoncgnhhjbaeGreatDoorC08
set_option linter.unusedSimpArgs false
set_option linter.unusedVariables false
namespace Ms
open Go

def cn1 (pt:List Fld→Tree→Tree) (kind:Int) (sub:List Fld) (null:Bool) (t:Tree):Tree :=
 if kind=0 then .num (t.n % 2)
 else if kind=7 then .oct false (uuidS t.s)
 else if kind=8∨kind=9 then .oct null (if null=true then [] else wholeS t.s)
 else if kind=10 then pt sub t
 else .num ((kindK kind).wrap t.n)
def cnF (pt:List Fld→Tree→Tree) (v:Int) (f:Fld) (t:Tree):Tree :=
 if f.kind=11 then .mk 0 [] (nilS f v (if nullS f v t=true then -1 else (thingsS t.l).length)) (if nullS f v t=true then [] else (thingsS t.l).map (cn1 pt f.of f.sub false)) []
 else if f.kind=10∧0≤f.null then (if nullS f v t=true then .mk 0 [] true [] [] else pt f.sub t)
 else cn1 pt f.kind f.sub (nullS f v t) t
def cnL (pt:List Fld→Tree→Tree) (dp:List Fld→Tree) (v:Int) (t:Tree):List Fld→Nat→List Tree
 | [],_=>[]
 | f :: fs,i=>(if f.tag < 0∧hasS f v=true then cnF pt v f (t.at i) else dfF dp f) :: cnL pt dp v t fs (i+1)
def cnP : Nat→Int→Bool→List Fld→Tree→Tree
 | 0,_,_,_,_=>.zero
 | d+1,v,flex,fs,t=>.mk 0 [] false (cnL (cnP d v flex) (dfP d) v t fs 0) (if flex=true then (unknownS fs t.u).map fun u=>(u.1,wholeS u.2) else [])

def numK (k:Int):Prop:=k=1∨k=2∨k=3∨k=4∨k=5∨k=6
instance (k : Int):Decidable (numK k):=by unfold numK;infer_instance
theorem rdLen_counted (flex null:Bool) (m:Nat) (r:List UInt8) (hm:m≤32767) :
  rdLen flex .i16 2 (some (countedS flex null m 2++r))=(if null=true then -1 else (m:Int),some r)∧rdLen flex .i32 4 (some (countedS flex null m 4++r))=(if null=true then -1 else (m:Int),some r):=by
 cases flex with
 | true =>
  rw [rdLen_t,rdLen_t]
  cases null with
  | true =>
   have:∀ n,countedS true true m n=uvarS 0:=fun n=>by rw [counted_none,if_pos rfl,uvarS_small (by omega)];rfl
   rw [this,this,rdUv_uvar 0 r (by omega)];exact ⟨rfl,rfl⟩
  | false =>
   have:∀ n,countedS true false m n=uvarS (m+1):=fun n=>by rw [counted_some,if_pos rfl]
   rw [this,this,rdUv_uvar (m+1) r (by omega)]
   simp
 | false =>
  rw [rdLen_f,rdLen_f]
  cases null with
  | true =>
   have:∀ n,countedS false true m n=fixedS (-1) n:=fun n=>by rw [counted_none];simp
   rw [this,this,rd_i16,rd_i32];exact ⟨rfl,rfl⟩
  | false =>
   have:∀ n,countedS false false m n=fixedS m n:=fun n=>by rw [counted_some];simp
   rw [this,this,rd_i16,rd_i32]
   rw [i16_wrap (by omega),i32_wrap (by omega)]
   simp
theorem rdCnt_counted (flex null:Bool) (m:Nat) (r:List UInt8) (hm:m≤32767):rdCnt flex (some (countedS flex null m 4++r))=(if null=true then -1 else (m:Int),some r):=by
 have h:=(rdLen_counted flex null m r hm).2
 cases flex with
 | true =>
  rw [rdLen_t] at h
  rw [rdCnt_t]
  simp only [Prod.mk.injEq] at h ⊢
  refine ⟨?_,h.2⟩
  have h1:=h.1
  cases null with
  | true =>
   simp only [if_true] at h1 ⊢
   rw [show (((rdUv (some (countedS true true m 4++r))).1:Nat):Int)=0 by omega];rfl
  | false =>
   simp only [Bool.false_eq_true,if_false] at h1 ⊢
   rw [show (((rdUv (some (countedS true false m 4++r))).1:Nat):Int)=(m:Int)+1 by omega,i32_wrap (x:=(m:Int)+1) (by omega),i32_wrap (x:=(m:Int)+1 - 1) (by omega)]
   omega
 | false=>rw [rdLen_f] at h;rw [rdCnt_f];exact h

section
variable {pr : List Fld→St→Tree × St} {pw:List Fld→Int→Bool→Tree→List UInt8} {pc:List Fld→Tree→Tree} {v:Int} {flex:Bool}
theorem rd1_value (kind:Int) (sub:List Fld) (null may:Bool) (t:Tree) (r:List UInt8) (hk:kind=0∨numK kind∨(7≤kind∧kind≤10)) (hm:null=true→may=true) (hp:kind=10→pr sub (some (pw sub v flex t++r))=(pc sub t,some r)) :
  rd1 pr kind sub may flex (some (valueS pw kind sub null v flex t++r))=(cn1 pc kind sub null t,some r):=by
 have hwl:=wholeS_len t.s
 have hl:=fun m h=>rdLen_counted flex null m (((if null=true then [] else wholeS t.s))++r) h
 have hs:∀ (s:List UInt8),s=(if null=true then [] else wholeS t.s)→s.length≤32767:=fun s e=>by
  rw [e];split
  ·simp
  ·exact hwl
 by_cases h0:kind=0
 ·subst h0
  have e1:valueS pw 0 sub null v flex t=[b8 (t.n % 2)]:=by simp [valueS]
  have e2:cn1 pc 0 sub null t = .num (t.n % 2):=by simp [cn1]
  have e3:∀ st,rd1 pr 0 sub may flex st=(.num (if beN (rdN 1 st).1=0 then 0 else 1),(rdN 1 st).2):=fun st=>by simp [rd1]
  rw [e1,e2,e3,rdN_app 1 _ r rfl]
  simp only [beN_1]
  have hb:=b8_toNat (t.n % 2)
  congr 2
  split<;>omega
 by_cases h7:kind=7
 ·subst h7
  have e1:valueS pw 7 sub null v flex t=uuidS t.s:=by simp [valueS,uuidS]
  have e2:cn1 pc 7 sub null t = .oct false (uuidS t.s):=by simp [cn1]
  have e3:∀ st,rd1 pr 7 sub may flex st=(.oct false (uuidS (rdSpan 16 st).1),(rdSpan 16 st).2):=fun st=>by simp [rd1]
  rw [e1,e2,e3,rdSpan_16]
  have e:uuidS (uuidS t.s)=uuidS t.s:=by
   have hu:=uuidS_len t.s
   generalize uuidS t.s=x at *
   unfold uuidS
   rw [List.take_of_length_le (by omega),hu]
   simp
  simp only [e]
 by_cases h8:kind=8
 ·subst h8
  obtain ⟨s,es⟩:∃ s,s=(if null=true then [] else wholeS t.s):=⟨_,rfl⟩
  have e1:valueS pw 8 sub null v flex t=countedS flex null s.length 2++s:=by rw [es];simp [valueS]
  have e2:cn1 pc 8 sub null t = .oct null s:=by rw [es];simp [cn1]
  have e3:∀ st,rd1 pr 8 sub may flex st=if may=true then (.oct (rdNStr flex st).1.1 (rdNStr flex st).1.2,(rdNStr flex st).2) else (.oct false (rdStr flex st).1,(rdStr flex st).2):=fun st=>by simp [rd1]
  rw [e1,e2,e3]
  rw [← es] at hl
  have hL:=(hl s.length (hs s es)).1
  rw [← List.append_assoc] at hL
  have hst:null=false→rdStr flex (some (countedS flex null s.length 2++s++r))=(s,some r):=fun hn=>by
   unfold rdStr;rw [hL,hn];exact rdSpan_app s r
  cases null with
  | true =>
   have:=hm rfl;subst this
   simp only [if_true] at hL es ⊢
   unfold rdNStr
   rw [hL]
   simp only
   rw [if_pos (by decide)]
   subst es;rfl
  | false =>
   have hst:=hst rfl
   cases may with
   | false=>simp only [Bool.false_eq_true,if_false,hst]
   | true =>
    simp only [if_true]
    unfold rdNStr
    rw [hL,hst]
    simp only [Bool.false_eq_true,if_false]
    rw [if_neg (by omega)]
 by_cases h9:kind=9
 ·subst h9
  obtain ⟨s,es⟩:∃ s,s=(if null=true then [] else wholeS t.s):=⟨_,rfl⟩
  have e1:valueS pw 9 sub null v flex t=countedS flex null s.length 4++s:=by rw [es];simp [valueS]
  have e2:cn1 pc 9 sub null t = .oct null s:=by rw [es];simp [cn1]
  have e3:∀ st,rd1 pr 9 sub may flex st=if may=true then (.oct (rdNBytes flex st).1.1 (rdNBytes flex st).1.2,(rdNBytes flex st).2) else (.oct (rdBytes flex st).1.1 (rdBytes flex st).1.2,(rdBytes flex st).2):=fun st=>by simp [rd1]
  rw [e1,e2,e3]
  rw [← es] at hl
  have hL:=(hl s.length (hs s es)).2
  rw [← List.append_assoc] at hL
  have hst:null=false→rdOct flex (some (countedS flex null s.length 4++s++r))=(s,some r):=fun hn=>by
   unfold rdOct;rw [hL,hn];exact rdSpan_app s r
  cases null with
  | true =>
   have:=hm rfl;subst this
   simp only [if_true] at hL es ⊢
   unfold rdNBytes
   rw [hL]
   simp only
   rw [if_pos (by decide)]
   subst es;rfl
  | false =>
   have hst:=hst rfl
   cases may with
   | false =>
    simp only [Bool.false_eq_true,if_false]
    unfold rdBytes
    rw [hL,hst]
    simp only [Bool.false_eq_true,if_false]
    rw [if_neg (by omega)]
    rfl
   | true =>
    simp only [if_true]
    unfold rdNBytes
    rw [hL,hst]
    simp only [Bool.false_eq_true,if_false]
    rw [if_neg (by omega)]
    rfl
 by_cases h10:kind=10
 ·subst h10
  have e1:valueS pw 10 sub null v flex t=pw sub v flex t:=by simp [valueS]
  have e2:cn1 pc 10 sub null t=pc sub t:=by simp [cn1]
  have e3:∀ st,rd1 pr 10 sub may flex st=pr sub st:=fun st=>by simp [rd1]
  rw [e1,e2,e3];exact hp rfl
 have hn:numK kind:=by rcases hk with h|h|h<;>first|exact h|omega
 rcases hn with h|h|h|h|h|h<;>subst h
 ·have:=rd_i8 t.n r;simp [rd1,valueS,cn1,kindK,widthS,this]
 ·have:=rd_i16 t.n r;simp [rd1,valueS,cn1,kindK,widthS,this]
 ·have:=rd_i32 t.n r;simp [rd1,valueS,cn1,kindK,widthS,this]
 ·have:=rd_i64 t.n r;simp [rd1,valueS,cn1,kindK,widthS,this]
 ·have:=rd_u16 t.n r;simp [rd1,valueS,cn1,kindK,widthS,this]
 ·have:=rd_i64 t.n r;simp [rd1,valueS,cn1,kindK,widthS,this]
theorem valueS_pos (kind:Int) (sub:List Fld) (null:Bool) (t:Tree) (hk:kind=0∨numK kind∨(7≤kind∧kind≤10)) (hp:kind=10→1≤(pw sub v flex t).length):1≤(valueS pw kind sub null v flex t).length:=by
 have hc:∀ n m,1≤n→1≤(countedS flex null m n).length:=fun n m hn=>by
  unfold countedS
  split
  ·simp
  ·split
   ·exact uvarS_pos _
   ·split<;>rw [fixedS_len]<;>omega
 unfold valueS
 split
 ·simp
 ·split
  ·simp;omega
  ·split
   ·rw [List.length_append];have:=hc 2 (if null=true then [] else wholeS t.s).length (by omega);omega
   ·split
    ·rw [List.length_append];have:=hc 4 (if null=true then [] else wholeS t.s).length (by omega);omega
    ·split
     ·rename_i h;exact hp h
     ·rw [fixedS_len];unfold widthS;repeat (first|omega|split)
theorem rdMany_values (kind:Int) (sub:List Fld) (hk:kind=0∨numK kind∨(7≤kind∧kind≤10)):∀ (l:List Tree) (r:List UInt8),(∀ x∈l,kind=10→∀ r,pr sub (some (pw sub v flex x++r))=(pc sub x,some r)) →
  rdMany (rd1 pr kind sub false flex) l.length (some (l.flatMap (fun x=>valueS pw kind sub false v flex x)++r))=(l.map (cn1 pc kind sub false),some r)
 | [],r,_=>rfl
 | x :: l,r,h=>by
  have h1:=rd1_value (pr:=pr) (pw:=pw) (pc:=pc) (v:=v) (flex:=flex) kind sub false false x (l.flatMap (fun x=>valueS pw kind sub false v flex x)++r) hk (fun h=>h) (fun hk=>h x (by simp) hk _)
  have h2:=rdMany_values kind sub hk l r fun y hy=>h y (by simp [hy])
  rw [List.length_cons,List.flatMap_cons,List.append_assoc,rdMany,h1]
  simp only [h2,List.map_cons]
theorem rdF_field (f:Fld) (t:Tree) (r:List UInt8) (hk:f.kind=11∨f.kind=0∨numK f.kind∨(7≤f.kind∧f.kind≤10)) (ho:f.of=0∨numK f.of∨(7≤f.of∧f.of≤10))
  (hp:∀ x,(f.kind=10∧x=t)∨(f.kind=11∧f.of=10∧x∈t.l)→∀ r,pr f.sub (some (pw f.sub v flex x++r))=(pc f.sub x,some r)) (hpos:f.kind=11→f.of=10→∀ x∈t.l,1≤(pw f.sub v flex x).length) :
  rdF pr v flex f (some (fieldS pw f v flex t++r))=(cnF pc v f t,some r):=by
 unfold rdF cnF fieldS
 by_cases h11:f.kind=11
 ·rw [if_pos h11,if_pos h11,if_pos h11]
  unfold rdList
  obtain ⟨l,hl⟩:∃ l,l=(if nullS f v t=true then [] else thingsS t.l):=⟨_,rfl⟩
  have hmem:∀ x∈l,x∈t.l:=fun x hx=>by
   rw [hl] at hx
   split at hx
   ·cases hx
   ·exact List.mem_of_mem_take hx
  have hlen:l.length≤32767:=by
   rw [hl];split
   ·simp
   ·simp only [thingsS,List.length_take];omega
  rw [← hl,List.append_assoc]
  have hc:=rdCnt_counted flex (nullS f v t) l.length (l.flatMap (fun x=>valueS pw f.of f.sub false v flex x)++r) hlen
  have hge:l.length≤(l.flatMap fun x=>valueS pw f.of f.sub false v flex x).length:=by
   have:∀ (l:List Tree),(∀ x∈l,x∈t.l)→l.length≤(l.flatMap fun x=>valueS pw f.of f.sub false v flex x).length:=by
    intro l
    induction l with
    | nil=>intro _;simp
    | cons x l ih =>
     intro h
     have h1:=valueS_pos (pw:=pw) (v:=v) (flex:=flex) f.of f.sub false x ho (fun h10=>hpos h11 h10 x (h x (by simp)))
     have h2:=ih fun y hy=>h y (by simp [hy])
     rw [List.flatMap_cons,List.length_append,List.length_cons];omega
   exact this l hmem
  have ha:rdALen flex (some (countedS flex (nullS f v t) l.length 4++(l.flatMap (fun x=>valueS pw f.of f.sub false v flex x)++r)))=(if nullS f v t=true then -1 else (l.length:Int),some (l.flatMap (fun x=>valueS pw f.of f.sub false v flex x)++r)):=by
   unfold rdALen
   rw [hc,if_neg]
   simp only [stLen,Option.getD_some,List.length_append]
   split<;>omega
  have hM:=rdMany_values (pr:=pr) (pw:=pw) (pc:=pc) (v:=v) (flex:=flex) f.of f.sub ho l r fun x hx h10 r=>hp x (.inr ⟨h11,h10,hmem x hx⟩) r
  rw [ha]
  have hq:(if nullS f v t=true then (-1:Int) else (l.length:Int)).toNat=l.length:=by
   split
   ·rename_i h;rw [if_pos h] at hl;rw [hl];rfl
   ·simp
  simp only [hq,hM]
  congr 1
  cases hnu:nullS f v t with
  | true=>rw [hnu] at hl;simp only [if_true] at hl;subst hl;rfl
  | false=>rw [hnu] at hl;simp only [Bool.false_eq_true,if_false] at hl;subst hl;rfl
 by_cases hn:f.kind=10∧0≤f.null
 ·rw [if_neg h11,if_neg h11,if_neg h11,if_pos hn,if_pos hn,if_pos hn]
  cases hq:nullS f v t with
  | true =>
   simp only [if_true]
   have h:=rd_i8 (-1) r
   unfold rdOpt
   rw [h,if_pos (.inl rfl)]
  | false =>
   simp only [Bool.false_eq_true,if_false,List.append_assoc]
   have h:=rd_i8 1 (pw f.sub v flex t++r)
   unfold rdOpt
   rw [h,if_neg (fun h=>h.elim (fun h=>absurd (show (1:Int) = -1 from h) (by decide)) (fun h=>by cases h))]
   exact hp t (.inl ⟨hn.1,rfl⟩) r
 ·rw [if_neg h11,if_neg h11,if_neg h11,if_neg hn,if_neg hn,if_neg hn]
  refine rd1_value f.kind f.sub (nullS f v t) (mayS f v) t r (by rcases hk with h|h|h|h<;>first|exact absurd h h11|simp [h]) (fun h => ?_) (fun h10=>hp t (.inl ⟨h10,rfl⟩) r)
  unfold nullS at h
  unfold mayS
  simp only [Bool.and_eq_true,decide_eq_true_eq] at h ⊢
  exact ⟨h.1.2,h.2⟩
end

theorem Sized.el {N:Nat} {t:Tree} (h:Sized N t) {k:Nat} (hk:k < t.l.length):∃ M,Sized M t.l[k]:=by
 cases h with
 | mk ns hl he hk' hN=>exact ⟨_,he k hk (by simp only [Tree.l] at hk;omega)⟩
theorem rdTag_unk (u:List TagD) (x:TagD) (r:List UInt8) (hk:x.1 < 4294967296):rdTag u (some (unkT x++r))=(tagPut u (x.1,wholeS x.2),some r):=by
 have hw:=wholeS_len x.2
 have e:unkT x++r=uvarS x.1++(uvarS (wholeS x.2).length++(wholeS x.2++r)):=by simp [unkT,oneTag]
 unfold rdTag
 rw [e,rdUv_uvar _ _ hk]
 simp only
 rw [rdUv_uvar _ _ (by omega)]
 simp only
 rw [rdSpan_app]
def wideS (v:Int) (flex:Bool) (fs:List Fld):Bool:=flex || fs.any fun f=>decide (f.tag < 0) && hasS f v
section
variable {pr : List Fld→St→Tree × St} {pw:List Fld→Int→Bool→Tree→List UInt8} {pc:List Fld→Tree→Tree} {v:Int} {flex:Bool}
theorem fieldS_pos (f:Fld) (t:Tree) (hk:f.kind=11∨f.kind=0∨numK f.kind∨(7≤f.kind∧f.kind≤10)) (hp:f.kind=10→1≤(pw f.sub v flex t).length):1≤(fieldS pw f v flex t).length:=by
 unfold fieldS
 by_cases h11:f.kind=11
 ·rw [if_pos h11,List.length_append]
  have hc:∀ m,1≤(countedS flex (nullS f v t) m 4).length:=fun m=>by
   unfold countedS
   split
   ·simp
   ·split
    ·exact uvarS_pos _
    ·split<;>rw [fixedS_len]<;>omega
  have:=hc (if nullS f v t=true then [] else thingsS t.l).length
  omega
 by_cases hn:f.kind=10∧0≤f.null
 ·rw [if_neg h11,if_pos hn]
  split
  ·rw [fixedS_len];omega
  ·rw [List.length_append,fixedS_len];omega
 ·rw [if_neg h11,if_neg hn]
  exact valueS_pos _ _ _ _ (by rcases hk with h|h|h|h<;>first|exact absurd h h11|simp [h]) hp
theorem rdL_plain (dp:List Fld→Tree) (t:Tree):∀ (fs:List Fld) (i:Nat) (r:List UInt8),
  (∀ f∈fs,hasS f v=true→∀ (i:Nat) (r:List UInt8),rdF pr v flex f (some (fieldS pw f v flex (t.at i)++r))=(cnF pc v f (t.at i),some r)) →
  rdL pr dp v flex fs (some (plainL pw v flex t fs i++r))=(cnL pc dp v t fs i,some r)
 | [],_,r,_=>rfl
 | f :: fs,i,r,h=>by
  have ih:=fun r=>rdL_plain dp t fs (i+1) r fun g hg=>h g (by simp [hg])
  rw [rdL,plainL,cnL]
  by_cases hc:f.tag < 0∧hasS f v=true
  ·rw [if_pos hc,if_pos hc,if_pos hc,List.append_assoc,h f (by simp) hc.2 i _]
   simp only [ih]
  ·rw [if_neg hc,if_neg hc,if_neg hc,List.nil_append]
   simp only [ih]
end

def wrapN (k n:Int):Int:=if k=1 then IntKind.i8.wrap n else if k=2 then IntKind.i16.wrap n else if k=3 then IntKind.i32.wrap n else if k=5 then IntKind.u16.wrap n else n
def sortT (u:List TagD):List TagD:=u.mergeSort fun a b=>decide (a.1≤b.1)
def tl1 (tp:List Fld→Tree→Tree) (k:Int) (sub:List Fld) (x:Tree):Tree :=
 if k=0 then .num (if x.n % 2=1 then 1 else 0)
 else if k=7 then .oct false (uuidS x.s)
 else if k=8 then .oct false x.s
 else if k=9 then .oct x.null (if x.null=true then [] else x.s)
 else if k=10 then tp sub x
 else .num (wrapN k x.n)
def tlF (tp:List Fld→Tree→Tree) (f:Fld) (x:Tree):Tree :=
 if f.kind=8∧0≤f.null then .oct x.null (if x.null=true then [] else x.s)
 else if f.kind=11 then .mk 0 [] x.null ((if x.null=true then [] else x.l).map (tl1 tp f.of f.sub)) []
 else tl1 tp f.kind f.sub x
def tlL (tp:List Fld→Tree→Tree) (t:Tree):List Fld→Nat→List Tree
 | [],_=>[]
 | f :: fs,i=>tlF tp f (t.at i) :: tlL tp t fs (i+1)
def tlP : Nat→List Fld→Tree→Tree
 | 0,_,_=>.zero
 | d+1,fs,t=>.mk 0 [] false (tlL (tlP d) t fs 0) (sortT t.u)

def Good1 (G:List Fld→Tree→Prop) (k:Int) (sub:List Fld) (x:Tree):Prop:=(k=4→IntKind.i64.wrap x.n=x.n)∧x.s.length≤32767∧(k=10→G sub x)
def GoodF (G:List Fld→Tree→Prop) (f:Fld) (x:Tree):Prop:=if f.kind=11 then x.l.length≤32767∧∀ y∈x.l,Good1 G f.of f.sub y else Good1 G f.kind f.sub x
def GoodL (G:List Fld→Tree→Prop) (t:Tree):List Fld→Nat→Prop
 | [],_=>True
 | f :: fs,i=>GoodF G f (t.at i)∧GoodL G t fs (i+1)
def GoodU (u:List TagD):Prop:=u.length≤32767∧(u.map (·.1)).Nodup∧∀ y∈u,y.2.length≤32767
def GoodP : Nat→List Fld→Tree→Prop
 | 0,_,_=>True
 | d+1,fs,t=>GoodL (GoodP d) t fs 0∧GoodU t.u
theorem GoodF.one {G:List Fld→Tree→Prop} {f:Fld} {x:Tree} (h:GoodF G f x) (hk:f.kind≠11):Good1 G f.kind f.sub x:=by unfold GoodF at h;rw [if_neg hk] at h;exact h
theorem GoodF.list {G:List Fld→Tree→Prop} {f:Fld} {x:Tree} (h:GoodF G f x) (hk:f.kind=11):x.l.length≤32767∧∀ y∈x.l,Good1 G f.of f.sub y:=by unfold GoodF at h;rw [if_pos hk] at h;exact h
theorem GoodF.listL {G:List Fld→Tree→Prop} {f:Fld} {x:Tree} (h:GoodF G f x) (hk:f.kind=11) {L:List Tree} (hL:L=if x.null=true then [] else x.l):L.length≤32767∧∀ y∈L,Good1 G f.of f.sub y:=by
 subst hL
 split
 ·exact ⟨by simp,fun y hy=>by cases hy⟩
 ·exact h.list hk
theorem RepF_listT {R:List Fld→Rel Tree} {S:List Fld→Nat} {f:Fld} {ok:Blocks} {w:World} {t:Tree} {c:List Value} (h:f.kind=11) (hr:RepF R S f ok w t c) :
  ∃ a k L,c=[.slice a L.length k]∧L=(if t.null=true then [] else t.l)∧a.isNone=t.null∧SlR ok w (sz1 S f.of f.sub) (Rep1 R f.of f.sub ok w) (.slice a L.length k) L:=by
 unfold RepF at hr
 rw [if_neg (by omega),if_pos h] at hr
 obtain ⟨v,rfl,hr⟩:=hr
 by_cases ht:t.null=true
 ·rw [if_pos ht] at hr
  subst hr
  exact ⟨none,0,[],rfl,by rw [if_pos ht],by rw [ht];rfl,[],⟨none,0,rfl,Nat.le_refl _,by simp,.inl rfl⟩,rfl,fun i h=>by simp at h⟩
 ·rw [if_neg ht] at hr
  obtain ⟨hs,a,n,k,rfl⟩:=hr
  obtain ⟨a',k',e,_⟩:=SlR.shape hs
  cases e
  exact ⟨_,_,t.l,rfl,by rw [if_neg ht],by cases h:t.null with|true=>exact absurd h ht|false=>rfl,hs⟩
theorem wrap_wider (k:IntKind) (hk:k = .i8∨k = .i16∨k = .i32∨k = .u16) (n:Int):IntKind.i64.wrap (k.wrap n)=k.wrap n:=by
 have : -9223372036854775808≤k.wrap n∧k.wrap n < 9223372036854775808:=by
  rcases hk with h|h|h|h<;>subst h<;>(unfold IntKind.wrap;simp [IntKind.bits,IntKind.signed])<;>(try split)<;>omega
 exact i64_wrap (by omega)
theorem tl8 (n:Int):IntKind.i64.wrap (IntKind.i8.wrap n)=IntKind.i8.wrap n:=wrap_wider _ (by simp) n
theorem tl16 (n:Int):IntKind.i64.wrap (IntKind.i16.wrap n)=IntKind.i16.wrap n:=wrap_wider _ (by simp) n
theorem tl32 (n:Int):IntKind.i64.wrap (IntKind.i32.wrap n)=IntKind.i32.wrap n:=wrap_wider _ (by simp) n
theorem tlu16 (n:Int):IntKind.i64.wrap (IntKind.u16.wrap n)=IntKind.u16.wrap n:=wrap_wider _ (by simp) n

theorem bytesRow_list (s:List UInt8) (cap:Nat):bytesRow ⟨s.toArray⟩ cap=(s.map byteV++List.replicate (cap - s.length) (Value.int .u8 0)).toArray:=by
 apply Array.ext'
 simp [bytesRow,ByteArray.size]
 exact fun _ _=>rfl
section
variable {P : Program}
theorem wp_octets {S T E:TypeId} (hs:P.underlying S=some .string) (hd:P.underlying T=some (.slice E)) (he:P.underlying E=some (.int .u8)) {s:List UInt8}
  {w:World} {ρ:Regs} {d:Option Nat} {x:Operand} {type:TypeId} {pos:String} {after:Array Edge} {guard:Option (Nat × Bool)} {K:Regs→World→Prop}
  (hx:ev ρ x=strV s) (hk:∀ a k w',BytesV (fun b=>w.heap.size≤b) w' (.slice (some a) s.length k) s→Ext w w'→K (put ρ d (.slice (some a) s.length k)) w') :
  rawK P { dst:=d,op:=.convert S T x,type:=type,pos:=pos,after:=after,guard:=guard } ρ w K:=by
 refine ⟨?_⟩
 have hr:=run_bytes_of_string w S T E ⟨s.toArray⟩ hs hd he
 have hsz:(⟨s.toArray⟩:ByteArray).size=s.length:=by simp [ByteArray.size]
 rw [hsz,bytesRow_list] at hr
 have hcap:s.length≤grownCap w s.length 0 E:=by unfold grownCap;simp only [Question.cut];omega
 generalize grownCap w s.length 0 E=cap at *
 have:(execOp (ev ρ) { dst:=d,op:=.convert S T x,type:=type,pos:=pos,after:=after,guard:=guard }).run P w = .ok (.value (.slice (some ⟨w.heap.size,0,none⟩) s.length cap)) (w.drew.alloc (.cells (s.map byteV++List.replicate (cap - s.length) (Value.int .u8 0)).toArray E ((s.map byteV++List.replicate (cap - s.length) (Value.int .u8 0)).toArray.size,(s.map byteV++List.replicate (cap - s.length) (Value.int .u8 0)).toArray.size+1))):=by
  have hr':(convert S T (strV s)).run P w=_:=hr
  simp only [execOp,hx,Sem.run_bind,hr',Result.andThen_ok,Sem.run_pure]
 rw [this]
 refine hk _ _ _ ?_ ((Upd.refl _ _).drew.alloc _)
 refine ⟨_,cap,by rw [List.length_map],by rw [List.length_map];exact hcap,fun cs hm => ?_,.inr ⟨_,rfl,rfl,Nat.le_refl _,_,blk_alloc_new rfl,fun i hi => ?_⟩⟩
 ·obtain ⟨b,_,rfl⟩:=List.mem_map.1 hm;rfl
 ·rw [bytes_flat] at hi ⊢
  simp only [Nat.zero_add,List.getElem?_toArray]
  exact List.getElem?_append_left hi
end
theorem bytes_at {w:World} {b o:Nat} {x:Blk} {n:Nat} {s:List UInt8} (hb:blk w b=some x) (hl:s.length=n) (h:∀ i,i < n→x.1[o+i]? = (s.map byteV)[i]?):BytesV AnyB w (.slice (some ⟨b,o,none⟩) n n) s:=by
 subst hl
 refine ⟨_,s.length,by rw [List.length_map],by rw [List.length_map];exact Nat.le_refl _,fun cs hm => ?_,.inr ⟨_,rfl,rfl,trivial,x,hb,fun i hi => ?_⟩⟩
 ·obtain ⟨b,_,rfl⟩:=List.mem_map.1 hm;rfl
 ·rw [bytes_flat] at hi ⊢
  exact h i (by simpa using hi)
theorem Own.setlast {B:Nat} {w:World} {E:TypeId} {size:Nat} {g:Nat} {n q:Nat} {xs z cs:List Value} (h:Own B w E size (.slice (some ⟨g,0,none⟩) (n+1) q) (n+1) (xs++z)) (hz:z.length=size) (hc:cs.length=size):Own B (wr w g (n * size) cs) E size (.slice (some ⟨g,0,none⟩) (n+1) q) (n+1) (xs++cs):=by
 obtain ⟨h1,h2⟩:=h
 have hl:xs.length=n * size:=by
  simp only [List.length_append,hz,Nat.succ_mul] at h1;omega
 refine ⟨by simp only [List.length_append,hc,hl,Nat.succ_mul],?_⟩
 rcases h2 with ⟨h,_⟩|⟨g',cap,rest,fr,h3,h4,h5,h6,h7,h8⟩
 ·cases h
 ·cases h3
  refine .inr ⟨g,_,rest,fr,rfl,h4,?_,by simp only [List.length_append,hc,hz] at h6 ⊢;exact h6,h7,h8⟩
  rw [List.append_assoc] at h5 ⊢
  have:=el_blk0 (vs:=cs) h5 hl (by omega)
  rw [this]
  congr 2
  have e1:=el_sets (A:=[]) (B:=[]) cs z 0 (by omega)
  simp only [List.nil_append,List.append_nil,List.length_nil,Nat.zero_add] at e1
  have e2:=wrArr_full (c:=z.toArray) (vs:=cs) (by rw [List.size_toArray];omega)
  have e3:setL z 0 cs=cs:=congrArg Array.toList (e1.symm.trans e2)
  rw [e3]
theorem sortT_perm (u:List TagD):(sortT u).Perm u:=List.mergeSort_perm _ _
theorem sortT_le (u:List TagD):(sortT u).Pairwise fun a b=>a.1≤b.1:=by
 have:=List.pairwise_mergeSort (le:=fun a b:TagD=>decide (a.1≤b.1)) (fun a b c h1 h2=>by simp at h1 h2 ⊢;omega) (fun a b=>by simp;omega) u
 exact this.imp fun h=>by simpa using h
theorem sortT_lt {u:List TagD} (h:(u.map (·.1)).Nodup):((sortT u).map (·.1)).Pairwise (· < ·):=by
 have h1:((sortT u).map (·.1)).Nodup:=((sortT_perm u).map _).nodup_iff.2 h
 have h2:((sortT u).map (·.1)).Pairwise (·≤·):=List.pairwise_map.2 (sortT_le u)
 have h3:=List.nodup_iff_pairwise_ne.1 h1
 exact (h2.and h3).imp fun h=>by omega
theorem wr_comm {w:World} {a b o p:Nat} {vs us:List Value} (h:a≠b):wr (wr w a o vs) b p us=wr (wr w b p us) a o vs:=by
 simp only [wr]
 congr 1
 apply Array.ext_getElem?
 intro i
 simp only [Array.getElem?_modify]
 by_cases h1:b=i
 ·have h2:¬ a=i:=by omega
  simp [h1,h2]
 ·simp [h1]
def LoopL (l:List (Nat × Value)) (ri:Nat) (I:Nat→World→Prop) (ρ:Regs) (w:World):Prop:=Holds l ρ∧∃ j:Nat,ρ ri = .int .i64 j∧I j w
def TreeRg (ok:Blocks) (w:World) (w':World) (r:Value) (t:Tree):Prop:=∃ cs,r = .agg cs.toArray∧TreeC (okN ok w.heap.size) w' t cs
theorem treesN (ok:Blocks) (w:World):TreesV ok w (.slice none 0 0) []:=⟨[],⟨none,0,rfl,Nat.le_refl _,by simp,.inl rfl⟩,rfl,fun i h=>by simp at h⟩
theorem tagsN (ok:Blocks) (w:World):TagsV ok w (.slice none 0 0) []:=⟨[],⟨none,0,rfl,Nat.le_refl _,by simp,.inl rfl⟩,rfl,fun i h=>by simp at h⟩

def numS (k n:Int):Int:=if k=0 then n % 2 else wrapN k n
def liveS (d:Nat) (v:Int) (flex:Bool) (f:Fld) (t:Tree):Bool:=(decide (f.tag < 0) && hasS f v) || (decide (0≤f.tag) && (flex && !(usualS d f t)))
/-! ### Rows in memory -/
theorem SlR.litO {α:Type} {ok:Blocks} {w:World} {size b:Nat} {fr:Nat × Nat} {T:TypeId} {R:α→List Value→Prop} {xs:List α} {css:List (List Value)} (hok:ok b) (h:blk w b=some (css.flatten.toArray,T,fr)) (hl:∀ cs∈css,cs.length=size) (ha:All2 R xs css) :
  SlR ok w size R (.slice (some ⟨b,0,none⟩) xs.length xs.length) xs:=by
 refine ⟨css,⟨some ⟨b,0,none⟩,xs.length,by rw [ha.1],by rw [ha.1];exact Nat.le_refl _,hl,.inr ⟨_,rfl,rfl,hok,_,h,fun i hi => ?_⟩⟩,ha⟩
 simp only [Nat.zero_add,List.getElem?_toArray]
theorem All2.one {α β:Type} {R:α→β→Prop} {x:α} {y:β} (h:R x y):All2 R [x] [y] :=
 ⟨rfl,fun i h1 h2=>by
  obtain rfl:i=0:=by simp at h1;exact h1
  exact h⟩
theorem FldsV.one {w:World} {b:Nat} {fr:Nat × Nat} {T:TypeId} {f:Fld} {vs:Value} (h:blk w b=some (#[.int .i64 f.kind,.int .i64 f.fr,.int .i64 f.to,.int .i64 f.null,.int .i64 f.tag,.int .i64 f.df,.int .i64 f.of,vs],T,fr)) (hs:FldsV AnyB w vs f.sub):FldsV AnyB w (.slice (some ⟨b,0,Option.none⟩) 1 1) [f] :=
 SlR.litO (css:=[[.int .i64 f.kind,.int .i64 f.fr,.int .i64 f.to,.int .i64 f.null,.int .i64 f.tag,.int .i64 f.df,.int .i64 f.of,vs]]) trivial h (fun cs hm=>by simp only [List.mem_singleton] at hm;subst hm;rfl) (All2.one (by cases f;exact FldC.intro hs))
theorem TreesV.one {w:World} {b:Nat} {fr:Nat × Nat} {T:TypeId} {x:Tree} {c0 c1 c2 c3 c4:Value} (h:blk w b=some (#[c0,c1,c2,c3,c4],T,fr)) (hx:TreeC AnyB w x [c0,c1,c2,c3,c4]):TreesV AnyB w (.slice (some ⟨b,0,Option.none⟩) 1 1) [x] :=
 SlR.litO (css:=[[c0,c1,c2,c3,c4]]) trivial h (fun cs hm=>by simp only [List.mem_singleton] at hm;subst hm;rfl) (All2.one hx)
theorem OwnE.tags {B:Nat} {w:World} {E:TypeId} {v:Value} {css:List (List Value)} {ts:List TagD} {ok:Blocks} (h:OwnE B w E 2 v css) (ha:All2 (TagC ok w) ts css):TagsV AnyB w v ts :=
 ⟨css,h.sl fun _ _=>trivial,ha.imp fun _ _ h=>h.weaken fun _ _ _=>trivial⟩

def Shr {α:Type} (r:St→α × St):Prop:=∀ st,stLen (r st).2≤stLen st
/-! ### The tags -/
/-! ### The parts -/
def okDf : Nat→List Fld→Bool
 | 0,_=>true
 | d+1,fs=>decide (fs.length≤32767) && fs.all fun f=>(!decide (f.kind=4) || decide (IntKind.i64.wrap f.df=f.df)) && (!decide (f.kind=10) && !decide (f.of=10) || okDf d f.sub)
inductive All3 {α β:Type} (R:α→β→Prop):List α→List β→Prop
 | nil:All3 R [] []
 | cons {a:α} {b:β} {l:List α} {m:List β} (h:R a b) (t:All3 R l m):All3 R (a :: l) (b :: m)
theorem goodL_of {G:List Fld→Tree→Prop} {n:Int} {s:List UInt8} {nl:Bool} {u:List TagD}:∀ {fs:List Fld} {l:List Tree} (pre:List Tree),All3 (GoodF G) fs l→GoodL G (.mk n s nl (pre++l) u) fs pre.length
 | _,_,_,.nil=>trivial
 | f :: fs,x :: l,pre,.cons h t=>by
  refine ⟨?_,?_⟩
  ·have:Tree.at (.mk n s nl (pre++x :: l) u) pre.length=x:=by simp [Tree.at,Tree.l]
   rw [this];exact h
  ·have:=goodL_of (G:=G) (n:=n) (s:=s) (nl:=nl) (u:=u) (pre++[x]) t
   simpa using this
theorem good1_num {G:List Fld→Tree→Prop} {k:Int} {sub:List Fld} {n:Int} (h:k=4→IntKind.i64.wrap n=n) (hk:k≠10):Good1 G k sub (.num n):=⟨h,by simp [Tree.num,Tree.s],fun h=>absurd h hk⟩
theorem good1_oct {G:List Fld→Tree→Prop} {k:Int} {sub:List Fld} {b:Bool} {s:List UInt8} (h:s.length≤32767) (hk:k≠10):Good1 G k sub (.oct b s):=⟨fun _=>rfl,h,fun h=>absurd h hk⟩
theorem dfP_sn : ∀ d fs,(dfP d fs).s=[]∧(dfP d fs).n=0
 | 0,_=>⟨rfl,rfl⟩
 | d+1,fs=>⟨rfl,rfl⟩
theorem Good_setNull {d:Nat} {fs:List Fld} {t:Tree} (h:GoodP d fs t) (b:Bool):GoodP d fs (t.setNull b):=by
 cases t with
 | mk n s nl l u =>
  cases d with
  | zero=>trivial
  | succ d =>
   refine ⟨?_,h.2⟩
   have key:∀ (fs:List Fld) (i:Nat),GoodL (GoodP d) (.mk n s nl l u) fs i→GoodL (GoodP d) (.mk n s b l u) fs i:=by
    intro fs
    induction fs with
    | nil=>intro i _;trivial
    | cons f fs ih=>intro i h;exact ⟨h.1,ih _ h.2⟩
   exact key fs 0 h.1
theorem dfF_good {d:Nat} {dp:List Fld→Tree} {f:Fld} (hdp:f.kind=10→GoodP d f.sub (dp f.sub)∧(dp f.sub).s=[]) (h4:f.kind=4→IntKind.i64.wrap f.df=f.df):GoodF (GoodP d) f (dfF dp f):=by
 unfold GoodF dfF
 by_cases h11:f.kind=11
 ·rw [if_pos h11,if_neg (by omega),if_neg (by omega),if_neg (by omega),if_pos h11]
  exact ⟨by simp [Tree.l],fun y hy=>by simp [Tree.l] at hy⟩
 ·rw [if_neg h11]
  by_cases h8:f.kind=8
  ·rw [if_pos h8];exact good1_oct (by simp) (by omega)
  ·rw [if_neg h8]
   by_cases h7:f.kind=7
   ·rw [if_pos h7];exact good1_oct (by rw [uuidS_len];omega) (by omega)
   ·rw [if_neg h7]
    by_cases h9:f.kind=9
    ·rw [if_pos h9];exact good1_oct (by simp) (by omega)
    ·rw [if_neg h9,if_neg h11]
     by_cases h10:f.kind=10
     ·rw [if_pos h10]
      have:=hdp h10
      refine ⟨fun h=>by omega,?_,fun _=>Good_setNull this.1 _⟩
      have e:((dp f.sub).setNull (decide (0≤f.null))).s=(dp f.sub).s:=by cases dp f.sub;rfl
      rw [e,this.2];simp
     ·rw [if_neg h10];exact good1_num h4 h10
theorem okDf_f {d:Nat} {fs:List Fld} (h:okDf (d+1) fs=true) {f:Fld} (hf:f∈fs):(f.kind=4→IntKind.i64.wrap f.df=f.df)∧(f.kind=10∨f.of=10→okDf d f.sub=true):=by
 unfold okDf at h
 rw [Bool.and_eq_true] at h
 have:=List.all_eq_true.1 h.2 f hf
 simp only [Bool.and_eq_true,Bool.or_eq_true,Bool.not_eq_true',decide_eq_false_iff_not,decide_eq_true_eq] at this
 refine ⟨fun h4=>this.1.resolve_left fun h=>h h4,fun h10=>this.2.resolve_left fun h => ?_⟩
 rcases h10 with h10|h10
 ·exact h.1 h10
 ·exact h.2 h10
theorem dfP_good : ∀ (d:Nat) (fs:List Fld),okDf d fs=true→GoodP d fs (dfP d fs)
 | 0,_,_=>trivial
 | d+1,fs,h=>by
  refine ⟨?_,by simp [dfP,Tree.u,GoodU]⟩
  have key:∀ (gs:List Fld),(∀ f∈gs,f∈fs)→All3 (GoodF (GoodP d)) gs (gs.map (dfF (dfP d))):=by
   intro gs
   induction gs with
   | nil=>intro _;exact .nil
   | cons f gs ih =>
    intro hm
    have hf:=okDf_f h (hm f (by simp))
    exact .cons (dfF_good (fun h10=>⟨dfP_good d f.sub (hf.2 (.inl h10)),(dfP_sn d f.sub).1⟩) hf.1) (ih fun g hg=>hm g (by simp [hg]))
  exact goodL_of (G:=GoodP d) [] (key fs fun _ h=>h)
theorem GoodP_none (b:Bool):∀ (d:Nat) (fs:List Fld),GoodP d fs (.mk 0 [] b [] [])
 | 0,_=>trivial
 | d+1,fs=>by
  refine ⟨?_,by simp [Tree.u,GoodU]⟩
  have:∀ (l:List Fld) (i:Nat),GoodL (GoodP d) (.mk 0 [] b [] []) l i:=by
   intro l
   induction l with
   | nil=>intro _;trivial
   | cons f l ih =>
    intro i
    refine ⟨?_,ih _⟩
    have ea:(Tree.mk 0 [] b [] []).at i = .zero:=by simp [Tree.at,Tree.l]
    rw [ea]
    unfold GoodF
    split
    ·exact ⟨by simp [Tree.zero,Tree.l],fun x hx=>by cases hx⟩
    ·exact ⟨fun _=>rfl,by simp [Tree.zero,Tree.s],fun _=>GoodP_none false d f.sub⟩
  exact this fs 0
theorem okDf_len {d:Nat} {fs:List Fld} (h:okDf (d+1) fs=true):fs.length≤32767:=by
 unfold okDf at h
 rw [Bool.and_eq_true,decide_eq_true_eq] at h
 exact h.1
theorem small_num (n:Int):Small 32767 (.num n):=.mk (by simp) (by simp) (by simp) (fun i h=>by simp at h) (fun x h=>by simp at h)
theorem small_oct (b:Bool) {s:List UInt8} (h:s.length≤32767):Small 32767 (.oct b s):=.mk h (by simp) (by simp) (fun i h=>by simp at h) (fun x h=>by simp at h)
theorem small_list (b:Bool) {l:List Tree} (hl:l.length≤32767) (h:∀ x∈l,Small 32767 x):Small 32767 (.mk 0 [] b l []):=.mk (by simp) hl (by simp) (fun i hi=>h _ (List.getElem_mem hi)) (fun x h=>by simp at h)
theorem tl1_small {d:Nat} {k:Int} {sub:List Fld} {x:Tree} (hg:Good1 (GoodP d) k sub x) (hp:k=10→GoodP d sub x→Small 32767 (tlP d sub x)):Small 32767 (tl1 (tlP d) k sub x):=by
 unfold tl1
 split
 ·exact small_num _
 ·split
  ·exact small_oct _ (by rw [uuidS_len];omega)
  ·split
   ·exact small_oct _ hg.2.1
   ·split
    ·refine small_oct _ ?_
     split
     ·simp
     ·exact hg.2.1
    ·split
     ·rename_i h10;exact hp h10 (hg.2.2 h10)
     ·exact small_num _
theorem tlL_len (tp:List Fld→Tree→Tree) (t:Tree):∀ fs i,(tlL tp t fs i).length=fs.length
 | [],_=>rfl
 | f :: fs,i=>by simp [tlL,tlL_len tp t fs]
theorem tlP_small : ∀ (d:Nat) (fs:List Fld) (t:Tree),okDf d fs=true→GoodP d fs t→Small 32767 (tlP d fs t)
 | 0,_,_,_,_=>.mk (by simp) (by simp) (by simp) (fun i h=>by simp at h) (fun x h=>by simp at h)
 | d+1,fs,t,ho,h=>by
  have key:∀ (gs:List Fld) (i:Nat),(∀ f∈gs,f∈fs)→GoodL (GoodP d) t gs i→∀ y∈tlL (tlP d) t gs i,Small 32767 y:=by
   intro gs
   induction gs with
   | nil=>intro i _ _ y hy;simp [tlL] at hy
   | cons f gs ih =>
    intro i hm hg y hy
    rcases List.mem_cons.1 hy with rfl|hy
    ·have hf:=(okDf_f ho (hm f (by simp))).2
     unfold tlF
     split
     ·rename_i h8
      refine small_oct _ ?_
      have h1:=(hg.1.one (by omega)).2.1
      split
      ·simp
      ·exact h1
     ·split
      ·rename_i h11
       have hl:=hg.1.listL h11 rfl
       refine small_list _ (by rw [List.length_map];exact hl.1) fun x hx => ?_
       obtain ⟨z,hz,rfl⟩:=List.mem_map.1 hx
       exact tl1_small (hl.2 z hz) fun h10 hgz=>tlP_small d f.sub z (hf (.inr h10)) hgz
      ·rename_i h11
       exact tl1_small (hg.1.one h11) fun h10 hgz=>tlP_small d f.sub _ (hf (.inl h10)) hgz
    ·exact ih (i+1) (fun g hg=>hm g (by simp [hg])) hg.2 y hy
  have hu:=h.2
  exact .mk (by simp) (by rw [tlL_len];exact okDf_len ho) (by rw [(sortT_perm t.u).length_eq];exact hu.1)
   (fun i hi=>key fs 0 (fun _ h=>h) h.1 _ (List.getElem_mem hi)) (fun x hx=>hu.2.2 x ((sortT_perm t.u).mem_iff.1 hx))
theorem Small.lists {t:Tree} (h:Small 32767 t):Lists t:=by
 induction h with
 | mk hs hl hu he hd ih=>exact .mk hl hu ih

section
variable {pw : List Fld→Int→Bool→Tree→List UInt8} {pc:List Fld→Tree→Tree} {P:List Fld→Tree→Prop} {v:Int} {flex:Bool}
end

inductive N64 : Tree→Prop
 | mk {n:Int} {s:List UInt8} {null:Bool} {l:List Tree} {u:List TagD} (hn:IntKind.i64.wrap n=n) (he:∀ x∈l,N64 x):N64 (.mk n s null l u)
theorem N64.n {t:Tree} (h:N64 t):IntKind.i64.wrap t.n=t.n:=by cases h;assumption
theorem N64.l {t:Tree} (h:N64 t):∀ x∈t.l,N64 x:=by cases h;assumption
theorem N64.zero : N64 .zero:=.mk (by decide) (fun _ h=>by cases h)
theorem N64.at {t:Tree} (h:N64 t) (i:Nat):N64 (t.at i):=by
 unfold Tree.at
 rcases Nat.lt_or_ge i t.l.length with hi|hi
 ·rw [List.getD_eq_getElem?_getD,List.getElem?_eq_getElem hi];exact h.l _ (List.getElem_mem hi)
 ·rw [List.getD_eq_getElem?_getD,List.getElem?_eq_none hi];exact N64.zero
theorem TreeC.n64 {ok:Blocks} {w:World} {t:Tree} {cs:List Value} (h:TreeC ok w t cs):N64 t:=by
 induction h with
 | mk hn hS hL hl he hU ih =>
  refine .mk hn fun x hx => ?_
  obtain ⟨i,hi,rfl⟩:=List.getElem_of_mem hx
  exact ih i hi (by omega)

/-! ### What is read is of no great length -/
theorem i64_idem (n:Int):IntKind.i64.wrap (IntKind.i64.wrap n)=IntKind.i64.wrap n:=by
 have : -9223372036854775808≤IntKind.i64.wrap n∧IntKind.i64.wrap n≤9223372036854775807:=by
  unfold IntKind.wrap;simp [IntKind.bits,IntKind.signed];split<;>omega
 exact i64_wrap (by omega)
theorem cn1_good {d:Nat} {v:Int} {flex:Bool} (k:Int) (sub:List Fld) (null:Bool) (x:Tree) (hp:k=10→GoodP d sub (cnP d v flex sub x)):Good1 (GoodP d) k sub (cn1 (cnP d v flex) k sub null x):=by
 unfold cn1
 by_cases h0:k=0
 ·rw [if_pos h0];exact good1_num (by omega) (by omega)
 rw [if_neg h0]
 by_cases h7:k=7
 ·rw [if_pos h7];exact good1_oct (by rw [uuidS_len];omega) (by omega)
 rw [if_neg h7]
 by_cases h8:k=8∨k=9
 ·rw [if_pos h8]
  refine good1_oct ?_ (by omega)
  split
  ·simp
  ·simp only [wholeS,List.length_take];omega
 rw [if_neg h8]
 by_cases h10:k=10
 ·rw [if_pos h10]
  refine ⟨fun h=>by omega,?_,fun _=>hp h10⟩
  cases d<;>simp [cnP,Tree.zero,Tree.s]
 rw [if_neg h10]
 refine good1_num (fun h4 => ?_) h10
 subst h4
 exact i64_idem _
theorem cnF_good {d:Nat} {v:Int} {flex:Bool} (f:Fld) (x:Tree) (hp:f.kind=10∨f.of=10→∀ y,GoodP d f.sub (cnP d v flex f.sub y)):GoodF (GoodP d) f (cnF (cnP d v flex) v f x):=by
 unfold GoodF cnF
 by_cases h11:f.kind=11
 ·rw [if_pos h11,if_pos h11]
  simp only [Tree.l]
  split
  ·exact ⟨by simp,fun y hy=>by cases hy⟩
  ·refine ⟨by simp only [List.length_map,thingsS,List.length_take];omega,fun y hy => ?_⟩
   obtain ⟨z,_,rfl⟩:=List.mem_map.1 hy
   exact cn1_good _ _ _ _ fun h=>hp (.inr h) z
 ·rw [if_neg h11,if_neg h11]
  split
  ·rename_i h10
   split
   ·exact ⟨fun _=>rfl,by simp [Tree.s],fun _=>GoodP_none true d f.sub⟩
   ·exact ⟨fun h=>by omega,by cases d<;>simp [cnP,Tree.s,Tree.zero],fun _=>hp (.inl h10.1) x⟩
  ·exact cn1_good _ _ _ _ fun h=>hp (.inl h) x
theorem cnL_all3 {R:Fld→Tree→Prop} {pc:List Fld→Tree→Tree} {dp:List Fld→Tree} {v:Int} {t:Tree}:∀ (fs:List Fld) (i:Nat),(∀ f∈fs,(∀ x,R f (cnF pc v f x))∧R f (dfF dp f))→All3 R fs (cnL pc dp v t fs i)
 | [],_,_=>.nil
 | f :: fs,i,h=>.cons (by split;exact (h f (by simp)).1 _;exact (h f (by simp)).2) (cnL_all3 fs (i+1) fun g hg=>h g (by simp [hg]))
theorem cnP_good (v:Int) (flex:Bool):∀ (d:Nat) (fs:List Fld) (t:Tree),okDf d fs=true→GoodP d fs (cnP d v flex fs t)
 | 0,_,_,_=>trivial
 | d+1,fs,t,h=>by
  refine ⟨?_,?_⟩
  ·have:=goodL_of (G:=GoodP d) (n:=0) (s:=[]) (nl:=false) (u:=if flex=true then (unknownS fs t.u).map fun u=>(u.1,wholeS u.2) else []) [] (cnL_all3 (R:=GoodF (GoodP d)) (pc:=cnP d v flex) (dp:=dfP d) (v:=v) (t:=t) fs 0 fun f hf=>by
    obtain ⟨h4,hs⟩:=okDf_f h hf
    exact ⟨fun x=>cnF_good f x fun hk y=>cnP_good v flex d f.sub y (hs hk),dfF_good (fun hk=>⟨dfP_good d f.sub (hs (.inl hk)),(dfP_sn d f.sub).1⟩) h4⟩)
   exact this
  ·show GoodU (if flex=true then (unknownS fs t.u).map fun u=>(u.1,wholeS u.2) else [])
   split
   ·refine ⟨by rw [List.length_map];exact unknownS_len' fs t.u,?_,fun y hy => ?_⟩
    ·rw [List.map_map]
     have h1:=(unknownS_spec fs t.u).1
     have:(unknownS fs t.u).map ((fun x=>x.1) ∘ fun u=>(u.1,wholeS u.2))=(unknownS fs t.u).map (·.1):=rfl
     rw [this]
     exact List.nodup_iff_pairwise_ne.2 (List.pairwise_map.2 (h1.imp fun h=>by omega))
    ·obtain ⟨z,_,rfl⟩:=List.mem_map.1 hy
     simp only [wholeS,List.length_take];omega
   ·exact ⟨by simp,by simp,fun y hy=>by cases hy⟩

/-! ### It is told as it was -/
theorem tlL_get (tp:List Fld→Tree→Tree) (t:Tree):∀ (fs:List Fld) (i k:Nat) (h:k < fs.length),(tlL tp t fs i).getD k .zero=tlF tp fs[k] (t.at (i+k))
 | f :: fs,i,0,h=>by simp [tlL]
 | f :: fs,i,k+1,h=>by
  have:=tlL_get tp t fs (i+1) k (by simpa using h)
  simp only [tlL,List.getD_cons_succ,List.getElem_cons_succ]
  rw [this,show i+1+k=i+(k+1) by omega]
def okT : List Fld→Bool
 | fs=>fs.all fun f=>decide ((0≤f.null→8≤f.kind)∧¬ (f.kind=10∧0≤f.null))
theorem mod2_if (n:Int):(if n % 2=1 then (1:Int) else 0)=n % 2:=by split<;>omega
theorem Tree.at_mk (n:Int) (s:List UInt8) (b:Bool) (l:List Tree) (u:List TagD) (i:Nat):(Tree.mk n s b l u).at i=l.getD i .zero:=rfl
section
variable {d : Nat} {v:Int} {flex:Bool}
end
end Ms

