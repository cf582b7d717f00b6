/- A part of the proof: see the last text. -/
import Derived.Laws.IdiomStrings
import Derived.Test.YtmkpongjkjdcaaaGreatDoorC03
import Derived.Test.YtmkpongjkjdcaaaGreatDoorC05
import Derived.Test.YtmkpongjkjdcaaaGreatDoorC06
import Derived.Test.YtmkpongjkjdcaaaGreatDoorC07
import Derived.Test.YtmkpongjkjdcaaaGreatDoorC09
set_option linter.unusedSimpArgs false
set_option linter.unusedVariables false
namespace Ms
open Go

theorem Sized.el {N:Nat} {t:Tree} (h:Sized N t) {k:Nat} (hk:k < t.l.length):∃ M,Sized M t.l[k]:=by
 cases h with
 | mk ns hl he hk' hN=>exact ⟨_,he k hk (by simp only [Tree.l] at hk;omega)⟩
theorem rdTag_unk (u:List TagD) (x:TagD) (r:List UInt8) (hk:x.1 < 4294967296):rdTag u (some (unkT x++r))=(tagPut u (x.1,wholeS x.2),some r):=by
 have hw:=wholeS_len x.2
 have e:unkT x++r=uvarS x.1++(uvarS (wholeS x.2).length++(wholeS x.2++r)):=by simp [unkT,oneTag]
 unfold rdTag
 rw [e,rdUv_uvar _ _ hk]
 simp only
 rw [rdUv_uvar _ _ (by omega)]
 simp only
 rw [rdSpan_app]
theorem rdTagsN_unk : ∀ (l acc:List TagD) (r:List UInt8),(∀ x∈l,x.1 < 4294967296)→(∀ x∈l,∀ y∈acc,y.1≠x.1)→l.Pairwise (fun a b=>a.1≠b.1) →
  rdTagsN l.length acc (some (l.flatMap unkT++r))=(acc++l.map fun u=>(u.1,wholeS u.2),some r)
 | [],acc,r,_,_,_=>by simp [rdTagsN]
 | x :: l,acc,r,h1,h2,h3=>by
  rw [List.length_cons,List.flatMap_cons,List.append_assoc,rdTagsN,rdTag_unk acc x _ (h1 x (by simp))]
  have hn:tagPut acc (x.1,wholeS x.2)=acc++[(x.1,wholeS x.2)]:=tagPut_new fun z hz=>h2 x (by simp) z hz
  simp only [hn]
  rw [List.pairwise_cons] at h3
  rw [rdTagsN_unk l _ r (fun y hy=>h1 y (by simp [hy])) (fun y hy z hz=>by
   rcases List.mem_append.1 hz with hz|hz
   ·exact h2 y (by simp [hy]) z hz
   ·simp only [List.mem_singleton] at hz;rw [hz];exact h3.1 y hy) h3.2]
  simp
theorem rdTags_unk (fs:List Fld) (u:List TagD) (r:List UInt8) (hk:∀ x∈u,x.1 < 4294967296) :
  rdTags (some (uvarS (unknownS fs u).length++((unknownS fs u).flatMap unkT++r)))=((unknownS fs u).map fun u=>(u.1,wholeS u.2),some r):=by
 have h:=unknownS_spec fs u
 have hl:=unknownS_len' fs u
 unfold rdTags
 rw [rdUv_uvar _ _ (by omega)]
 simp only
 rw [rdTagsN_unk _ _ _ (fun x hx=>hk x (h.2 x hx).1) (fun _ _ _ h=>by cases h) (h.1.imp fun h=>by omega)]
 simp

def wideS (v:Int) (flex:Bool) (fs:List Fld):Bool:=flex || fs.any fun f=>decide (f.tag < 0) && hasS f v
def okR : Nat→Int→Bool→List Fld→Bool
 | 0,_,_,fs=>fs.isEmpty
 | d+1,v,flex,fs=>fs.all fun f=>decide (f.tag < 0∧(f.kind=11∨f.kind=0∨numK f.kind∨(7≤f.kind∧f.kind≤10))∧(f.of=0∨numK f.of∨(7≤f.of∧f.of≤10))∧¬ (f.kind=10∧0≤f.null)) && okR d v flex f.sub && (!(hasS f v) || wideS v flex f.sub || decide (¬ (f.kind=10∨(f.kind=11∧f.of=10))))
theorem okR_el {d:Nat} {v:Int} {flex:Bool} {fs:List Fld} (h:okR (d+1) v flex fs=true) {f:Fld} (hf:f∈fs) :
  f.tag < 0∧(f.kind=11∨f.kind=0∨numK f.kind∨(7≤f.kind∧f.kind≤10))∧(f.of=0∨numK f.of∨(7≤f.of∧f.of≤10))∧¬ (f.kind=10∧0≤f.null)∧okR d v flex f.sub=true∧(hasS f v=true→(f.kind=10∨(f.kind=11∧f.of=10))→wideS v flex f.sub=true):=by
 simp only [okR,List.all_eq_true] at h
 have:=h f hf
 rw [Bool.and_eq_true,Bool.and_eq_true,decide_eq_true_eq] at this
 obtain ⟨⟨⟨h1,h2,h3,h4⟩,h5⟩,h6⟩:=this
 refine ⟨h1,h2,h3,h4,h5,fun h7 h8 => ?_⟩
 rw [h7] at h6
 simp only [Bool.not_true,Bool.false_or,Bool.or_eq_true,decide_eq_true_eq] at h6
 rcases h6 with h6|h6
 ·exact h6
 ·exact absurd h8 h6
section
variable {pr : List Fld→St→Tree × St} {pw:List Fld→Int→Bool→Tree→List UInt8} {pc:List Fld→Tree→Tree} {v:Int} {flex:Bool}
theorem fieldS_pos (f:Fld) (t:Tree) (hk:f.kind=11∨f.kind=0∨numK f.kind∨(7≤f.kind∧f.kind≤10)) (hn:¬ (f.kind=10∧0≤f.null)) (hp:f.kind=10→1≤(pw f.sub v flex t).length):1≤(fieldS pw f v flex t).length:=by
 unfold fieldS
 by_cases h11:f.kind=11
 ·rw [if_pos h11,List.length_append]
  have hc:∀ m,1≤(countedS flex (nullS f v t) m 4).length:=fun m=>by
   unfold countedS
   split
   ·simp
   ·split
    ·exact uvarS_pos _
    ·split<;>rw [fixedS_len]<;>omega
  have:=hc (if nullS f v t=true then [] else thingsS t.l).length
  omega
 ·rw [if_neg h11,if_neg hn]
  exact valueS_pos _ _ _ _ (by rcases hk with h|h|h|h<;>first|exact absurd h h11|simp [h]) hp
theorem rdL_plain (dp:List Fld→Tree) (t:Tree):∀ (fs:List Fld) (i:Nat) (r:List UInt8),
  (∀ f∈fs,hasS f v=true→∀ (i:Nat) (r:List UInt8),rdF pr v flex f (some (fieldS pw f v flex (t.at i)++r))=(cnF pc v f (t.at i),some r)) →
  rdL pr dp v flex fs (some (plainL pw v flex t fs i++r))=(cnL pc dp v t fs i,some r)
 | [],_,r,_=>rfl
 | f :: fs,i,r,h=>by
  have ih:=fun r=>rdL_plain dp t fs (i+1) r fun g hg=>h g (by simp [hg])
  rw [rdL,plainL,cnL]
  by_cases hc:f.tag < 0∧hasS f v=true
  ·rw [if_pos hc,if_pos hc,if_pos hc,List.append_assoc,h f (by simp) hc.2 i _]
   simp only [ih]
  ·rw [if_neg hc,if_neg hc,if_neg hc,List.nil_append]
   simp only [ih]
end
theorem rdP_part (v:Int) (flex:Bool):∀ (d:Nat) (fs:List Fld) (N:Nat) (t:Tree),okR d v flex fs=true→Sized N t →
  (∀ r,rdP (d+1) v flex fs (some (partS (d+1) fs v flex t++r))=(cnP (d+1) v flex fs t,some r))∧(wideS v flex fs=true→1≤(partS (d+1) fs v flex t).length):=by
 intro d
 have key:∀ (d:Nat) (fs:List Fld) (t:Tree),(∀ f∈fs,f.tag < 0)→(∀ x∈t.u,x.1 < 4294967296) →
   (∀ f∈fs,hasS f v=true→∀ (i:Nat) (r:List UInt8),rdF (rdP d v flex) v flex f (some (fieldS (partS d) f v flex (t.at i)++r))=(cnF (cnP d v flex) v f (t.at i),some r)) →
   (∀ f∈fs,hasS f v=true→∀ (i:Nat),1≤(fieldS (partS d) f v flex (t.at i)).length) →
   (∀ r,rdP (d+1) v flex fs (some (partS (d+1) fs v flex t++r))=(cnP (d+1) v flex fs t,some r))∧(wideS v flex fs=true→1≤(partS (d+1) fs v flex t).length):=by
  intro d fs t htag hu h hpos
  have hk:=knownS_none htag
  have e2:tagsS (partS d) (d+1) fs v flex t=[]:=by unfold tagsS;rw [hk];rfl
  have hp:=fun r=>rdL_plain (pr:=rdP d v flex) (pw:=partS d) (pc:=cnP d v flex) (flex:=flex) (dfP d) t fs 0 r h
  constructor
  ·intro r
   rw [partS_eq]
   unfold partT
   rw [plainS_L,e2]
   rw [rdP,cnP]
   cases flex with
   | true =>
    simp only [if_true,List.length_nil,Nat.zero_add,List.flatMap_nil,List.nil_append,List.append_assoc]
    rw [hp]
    simp only [rdTags_unk fs t.u r hu]
   | false =>
    simp only [Bool.false_eq_true,if_false]
    rw [hp]
  ·intro hw
   rw [partS_eq]
   unfold partT
   cases flex with
   | true =>
    rw [if_pos rfl,List.length_append,List.length_append]
    have:=uvarS_pos ((tagsS (partS d) (d+1) fs v true t).length+(unknownS fs t.u).length)
    omega
   | false =>
    rw [if_neg (by decide),plainS_L]
    simp only [wideS,Bool.false_or,List.any_eq_true,Bool.and_eq_true,decide_eq_true_eq] at hw
    obtain ⟨f,hf,h1,h2⟩:=hw
    have:∀ (l:List Fld) (i:Nat),f∈l→(∀ g∈l,g∈fs)→1≤(plainL (partS d) v false t l i).length:=by
     intro l
     induction l with
     | nil=>intro _ h;cases h
     | cons g l ih =>
      intro i hm hs
      rw [plainL,List.length_append]
      rcases List.mem_cons.1 hm with rfl|hm
      ·rw [if_pos ⟨h1,h2⟩]
       have:=hpos f hf h2 i
       omega
      ·have:=ih (i+1) hm fun g hg=>hs g (by simp [hg])
       omega
    exact this fs 0 hf fun _ h=>h
 induction d with
 | zero =>
  intro fs N t h hs
  have hnil:fs=[]:=by simpa [okR] using h
  subst hnil
  have hu:∀ x∈t.u,x.1 < 4294967296:=by
   cases hs with
   | mk ns hl he hk hN=>exact hk
  exact key 0 [] t (fun _ h=>by cases h) hu (fun _ h=>by cases h) (fun _ h=>by cases h)
 | succ d ih =>
  intro fs N t h hs
  have hu:∀ x∈t.u,x.1 < 4294967296:=by
   cases hs with
   | mk ns hl he hk hN=>exact hk
  have sub:∀ (f:Fld) (i:Nat),okR d v flex f.sub=true→∀ x,(f.kind=10∧x=t.at i)∨(f.kind=11∧f.of=10∧x∈(t.at i).l)→∃ M,Sized M x:=by
   intro f i _ x hx
   have ha:=hs.at i
   rcases hx with ⟨_,rfl⟩|⟨_,_,hx⟩
   ·exact ⟨_,ha⟩
   ·obtain ⟨k,hk,rfl⟩:=List.getElem_of_mem hx
    exact ha.el hk
  refine key (d+1) fs t (fun f hf=>(okR_el h hf).1) hu (fun f hf hh i r => ?_) (fun f hf hh i => ?_)
  ·obtain ⟨g1,g2,g3,g4,g5,g6⟩:=okR_el h hf
   refine rdF_field f (t.at i) r g2 g3 g4 (fun x hx r => ?_) (fun h11 h10 x hx => ?_)
   ·obtain ⟨M,hM⟩:=sub f i g5 x hx
    exact (ih f.sub M x g5 hM).1 r
   ·obtain ⟨M,hM⟩:=sub f i g5 x (.inr ⟨h11,h10,hx⟩)
    exact (ih f.sub M x g5 hM).2 (g6 hh (.inr ⟨h11,h10⟩))
  ·obtain ⟨g1,g2,g3,g4,g5,g6⟩:=okR_el h hf
   refine fieldS_pos f (t.at i) g2 g4 fun h10 => ?_
   obtain ⟨M,hM⟩:=sub f i g5 (t.at i) (.inl ⟨h10,rfl⟩)
   exact (ih f.sub M (t.at i) g5 hM).2 (g6 hh (.inl h10))

theorem fixedS_congr {n m:Int}:∀ (k:Nat),n % ((256 ^ k:Nat):Int)=m % ((256 ^ k:Nat):Int)→fixedS n k=fixedS m k
 | 0,_=>rfl
 | k+1,h=>by
  have hpos:0 < 256 ^ k:=Nat.pow_pos (by omega)
  have e:((256 ^ (k+1):Nat):Int)=256 * ((256 ^ k:Nat):Int):=by rw [Nat.pow_succ,Int.natCast_mul,Int.mul_comm];rfl
  have hp:(2:Int) ^ (8 * k)=((256 ^ k:Nat):Int):=by rw [Int.pow_mul];simp
  rw [e] at h
  have h1:=b8_fdiv (x:=n) (y:=m) (256 ^ k) h hpos
  have h2:n % ((256 ^ k:Nat):Int)=m % ((256 ^ k:Nat):Int):=by
   have:=congrArg (· % ((256 ^ k:Nat):Int)) h
   simp only [Int.mul_comm 256] at this
   rwa [Int.emod_emod_of_dvd _ (Int.dvd_mul_right _ _),Int.emod_emod_of_dvd _ (Int.dvd_mul_right _ _)] at this
  show b8 (n.fdiv (2 ^ (8 * k))) :: fixedS n k=b8 (m.fdiv (2 ^ (8 * k))) :: fixedS m k
  rw [hp,h1,fixedS_congr k h2]
theorem fixedS_wrap (k:Int) (hk:numK k) (n:Int):fixedS ((kindK k).wrap n) (widthS k)=fixedS n (widthS k):=by
 refine fixedS_congr _ ?_
 rcases hk with h|h|h|h|h|h<;>subst h<;>simp [kindK,widthS,IntKind.wrap,IntKind.bits,IntKind.signed]<;>(try split)<;>omega
section
variable {pw : List Fld→Int→Bool→Tree→List UInt8} {pc:List Fld→Tree→Tree} {P:List Fld→Tree→Prop} {v:Int} {flex:Bool}
theorem valueS_cn (kind:Int) (sub:List Fld) (null:Bool) (t:Tree) (hk:kind=0∨numK kind∨(7≤kind∧kind≤10)) (hp:kind=10→pw sub v flex (pc sub t)=pw sub v flex t) :
  valueS pw kind sub null v flex (cn1 pc kind sub null t)=valueS pw kind sub null v flex t:=by
 have hw:wholeS (wholeS t.s)=wholeS t.s:=wholeS_id (wholeS_len _)
 by_cases h0:kind=0
 ·subst h0;simp [valueS,cn1,Tree.num,Tree.n]
 by_cases h7:kind=7
 ·subst h7
  have e1:∀ x,valueS pw 7 sub null v flex x=uuidS x.s:=fun x=>by simp [valueS,uuidS]
  have e2:cn1 pc 7 sub null t = .oct false (uuidS t.s):=by simp [cn1]
  rw [e1,e1,e2];exact uuidS_idem _
 by_cases h8:kind=8
 ·subst h8
  have e1:∀ x,valueS pw 8 sub null v flex x=countedS flex null (if null=true then [] else wholeS x.s).length 2++(if null=true then [] else wholeS x.s):=fun x=>by simp [valueS]
  have e2:cn1 pc 8 sub null t = .oct null (if null=true then [] else wholeS t.s):=by simp [cn1]
  rw [e1,e1,e2]
  cases null with
  | true=>rfl
  | false =>
   show countedS flex false (wholeS (wholeS t.s)).length 2++wholeS (wholeS t.s)=countedS flex false (wholeS t.s).length 2++wholeS t.s
   rw [hw]
 by_cases h9:kind=9
 ·subst h9
  have e1:∀ x,valueS pw 9 sub null v flex x=countedS flex null (if null=true then [] else wholeS x.s).length 4++(if null=true then [] else wholeS x.s):=fun x=>by simp [valueS]
  have e2:cn1 pc 9 sub null t = .oct null (if null=true then [] else wholeS t.s):=by simp [cn1]
  rw [e1,e1,e2]
  cases null with
  | true=>rfl
  | false =>
   show countedS flex false (wholeS (wholeS t.s)).length 4++wholeS (wholeS t.s)=countedS flex false (wholeS t.s).length 4++wholeS t.s
   rw [hw]
 by_cases h10:kind=10
 ·subst h10
  have e1:∀ x,valueS pw 10 sub null v flex x=pw sub v flex x:=fun x=>by simp [valueS]
  have e2:cn1 pc 10 sub null t=pc sub t:=by simp [cn1]
  rw [e1,e1,e2];exact hp rfl
 have hn:numK kind:=by rcases hk with h|h|h<;>first|exact h|omega
 have e1:∀ x,valueS pw kind sub null v flex x=fixedS x.n (widthS kind):=fun x=>by simp [valueS,h0,h7,h8,h9,h10]
 have e2:cn1 pc kind sub null t = .num ((kindK kind).wrap t.n):=by simp [cn1,h0,h7,h8,h9,h10]
 rw [e1,e1,e2];exact fixedS_wrap kind hn t.n
theorem cn1_null (kind:Int) (sub:List Fld) (null:Bool) (t:Tree) (h:kind=8∨kind=9):(cn1 pc kind sub null t).null=null:=by
 unfold cn1;rw [if_neg (by omega),if_neg (by omega),if_pos h];rfl
theorem cn1_fit (kind:Int) (sub:List Fld) (null:Bool) (t:Tree) (hp:kind=10→P sub (pc sub t)):Fit1 P kind sub (cn1 pc kind sub null t):=by
 refine ⟨fun h => ?_,fun h => ?_⟩
 ·unfold cn1;rw [if_neg (by omega),if_neg (by omega),if_pos h]
  show (if null=true then [] else wholeS t.s).length≤32767
  split
  ·simp
  ·exact wholeS_len _
 ·subst h;have e2:cn1 pc 10 sub null t=pc sub t:=by simp [cn1]
  rw [e2];exact hp rfl
theorem Tree.l_mk (n:Int) (s:List UInt8) (b:Bool) (l:List Tree) (u:List TagD):(Tree.mk n s b l u).l=l:=rfl
theorem nilS_bool (f:Fld) (b:Bool) (n:Nat):(0≤f.null→nilS f v (if (b && decide (f.null ≥ 0) && decide (v ≥ f.null))=true then -1 else (n:Int))=(b && decide (f.null ≥ 0) && decide (v ≥ f.null))):=by
 intro h
 unfold nilS
 rw [if_pos h]
 have h1:decide (f.null ≥ 0)=true:=by simpa using h
 rw [h1]
 by_cases h2:f.null≤v
 ·have h3:decide (v ≥ f.null)=true:=by simpa using h2
  rw [h3]
  cases b<;>simp
 ·have h3:decide (v ≥ f.null)=false:=by simpa using h2
  rw [h3];simp
theorem nilS_eq (f:Fld) (t:Tree) (n:Nat) (h:0≤f.null):nilS f v (if nullS f v t=true then -1 else (n:Int))=nullS f v t:=nilS_bool f t.null n h
theorem nilS_null (f:Fld) (t:Tree) (n:Nat) (l:List Tree):nullS f v (.mk 0 [] (nilS f v (if nullS f v t=true then -1 else (n:Int))) l [])=nullS f v t:=by
 by_cases h:0≤f.null
 ·rw [nilS_eq f t n h]
  exact (nullS_idem f v t (.mk 0 [] (nullS f v t) l []) rfl).symm
 ·rw [nullS_neg (by omega),nullS_neg (by omega)]
theorem fieldS_cn (f:Fld) (t:Tree) (hk:f.kind=11∨f.kind=0∨numK f.kind∨(7≤f.kind∧f.kind≤10)) (ho:f.of=0∨numK f.of∨(7≤f.of∧f.of≤10)) (hn:¬ (f.kind=10∧0≤f.null)) (hp:∀ x,pw f.sub v flex (pc f.sub x)=pw f.sub v flex x) :
  fieldS pw f v flex (cnF pc v f t)=fieldS pw f v flex t:=by
 unfold cnF
 by_cases h11:f.kind=11
 ·rw [if_pos h11]
  have hnu:nullS f v (.mk 0 [] (nilS f v (if nullS f v t=true then -1 else (((thingsS t.l).length:Nat):Int))) (if nullS f v t=true then [] else (thingsS t.l).map (cn1 pc f.of f.sub false)) [])=nullS f v t:=nilS_null f t _ _
  unfold fieldS
  rw [if_pos h11,if_pos h11,hnu]
  cases hq:nullS f v t with
  | true=>rfl
  | false =>
   simp only [Bool.false_eq_true,if_false,Tree.l_mk]
   have hth:thingsS ((thingsS t.l).map (cn1 pc f.of f.sub false))=(thingsS t.l).map (cn1 pc f.of f.sub false):=thingsS_id (by simp only [List.length_map,thingsS,List.length_take];omega)
   rw [hth,List.length_map,List.flatMap_map]
   congr 1
   refine flatMap_ext fun x _=>valueS_cn f.of f.sub false x ho fun _=>hp x
 ·rw [if_neg h11]
  unfold fieldS
  rw [if_neg h11,if_neg h11,if_neg hn,if_neg hn]
  have e:nullS f v (cn1 pc f.kind f.sub (nullS f v t) t)=nullS f v t∨(f.kind≠8∧f.kind≠9):=by
   by_cases h89:f.kind=8∨f.kind=9
   ·exact .inl ((nullS_idem f v t (cn1 pc f.kind f.sub (nullS f v t) t) (cn1_null _ _ _ _ h89)).symm.trans (cn1_null _ _ _ _ h89))
   ·exact .inr (not_or.1 h89)
  have hk':f.kind=0∨numK f.kind∨(7≤f.kind∧f.kind≤10):=by rcases hk with h|h|h|h<;>first|exact absurd h h11|simp [h]
  rcases e with e|e
  ·rw [e];exact valueS_cn _ _ _ _ hk' fun _=>hp t
  ·have:∀ a b x,valueS pw f.kind f.sub a v flex x=valueS pw f.kind f.sub b v flex x:=fun a b x=>by
    unfold valueS;rw [if_neg e.1,if_neg e.2,if_neg e.1,if_neg e.2]
   rw [this _ (nullS f v t)];exact valueS_cn _ _ _ _ hk' fun _=>hp t
theorem fit_cn (f:Fld) (t:Tree) (hk:f.kind=11∨f.kind=0∨numK f.kind∨(7≤f.kind∧f.kind≤10)) (hn:¬ (f.kind=10∧0≤f.null)) (hp:∀ x,P f.sub (pc f.sub x)) (hpn:∀ x,(pc f.sub x).null=false):FitWF P v f (cnF pc v f t):=by
 unfold cnF
 by_cases h11:f.kind=11
 ·rw [if_pos h11]
  have hnu:nullS f v (.mk 0 [] (nilS f v (if nullS f v t=true then -1 else (((thingsS t.l).length:Nat):Int))) (if nullS f v t=true then [] else (thingsS t.l).map (cn1 pc f.of f.sub false)) [])=nullS f v t:=nilS_null f t _ _
  refine ⟨?_,?_⟩
  ·by_cases h0:0≤f.null
   ·left
    rw [hnu]
    exact nilS_eq f t _ h0
   ·have hq:=nullS_neg (f:=f) (v:=v) (t:=t) (by omega)
    by_cases hl:(thingsS t.l).length=0
    ·right
     refine ⟨by omega,.inr h11,?_,rfl,?_⟩
     ·show nilS f v _=true
      unfold nilS;rw [if_neg h0,hq];simp [hl]
     ·have:=List.eq_nil_of_length_eq_zero hl
      show (if nullS f v t=true then [] else (thingsS t.l).map (cn1 pc f.of f.sub false))=[]
      rw [this];simp
    ·left
     rw [hnu,hq]
     show nilS f v _=false
     unfold nilS;rw [if_neg h0];simp only [Bool.false_eq_true,if_false,decide_eq_false_iff_not];omega
  ·rw [if_pos h11]
   refine ⟨?_,fun x hx => ?_⟩
   ·show (if nullS f v t=true then [] else (thingsS t.l).map (cn1 pc f.of f.sub false)).length≤32767
    split
    ·simp
    ·simp only [List.length_map,thingsS,List.length_take];omega
   ·have hx:x∈(if nullS f v t=true then [] else (thingsS t.l).map (cn1 pc f.of f.sub false)):=hx
    split at hx
    ·cases hx
    ·obtain ⟨y,_,rfl⟩:=List.mem_map.1 hx
     exact cn1_fit _ _ _ _ fun _=>hp y
 ·rw [if_neg h11]
  refine ⟨.inl ?_,by rw [if_neg h11];exact cn1_fit _ _ _ _ fun _=>hp t⟩
  by_cases h89:f.kind=8∨f.kind=9
  ·exact nullS_idem f v t (cn1 pc f.kind f.sub (nullS f v t) t) (cn1_null _ _ _ _ h89)
  ·have:(cn1 pc f.kind f.sub (nullS f v t) t).null=false:=by
    unfold cn1
    split
    ·rfl
    ·split
     ·rfl
     ·try rw [if_neg h89]
      split
      ·exact hpn t
      ·rfl
   rw [this];exact (nullS_false f v _ this).symm
end
theorem cnL_get (pc:List Fld→Tree→Tree) (dp:List Fld→Tree) (v:Int) (t:Tree):∀ (fs:List Fld) (i k:Nat) (h:k < fs.length),(cnL pc dp v t fs i).getD k .zero=if fs[k].tag < 0∧hasS fs[k] v=true then cnF pc v fs[k] (t.at (i+k)) else dfF dp fs[k]
 | f :: fs,i,0,h=>by simp [cnL]
 | f :: fs,i,k+1,h=>by
  have:=cnL_get pc dp v t fs (i+1) k (by simpa using h)
  simp only [cnL,List.getD_cons_succ,List.getElem_cons_succ]
  rw [this,show i+1+k=i+(k+1) by omega]
theorem cnP_null (d:Nat) (v:Int) (flex:Bool) (fs:List Fld) (t:Tree):(cnP d v flex fs t).null=false:=by
 cases d<;>rfl
theorem partS_cn (v:Int) (flex:Bool):∀ (d:Nat) (fs:List Fld) (t:Tree),okR d v flex fs=true →
  partS (d+1) fs v flex (cnP (d+1) v flex fs t)=partS (d+1) fs v flex t∧FitW v (d+1) fs (cnP (d+1) v flex fs t):=by
 have key:∀ (d:Nat) (fs:List Fld) (t:Tree),(∀ f∈fs,f.tag < 0)→(∀ f∈fs,∀ x,fieldS (partS d) f v flex (cnF (cnP d v flex) v f x)=fieldS (partS d) f v flex x)→(∀ f∈fs,∀ x,FitWF (FitW v d) v f (cnF (cnP d v flex) v f x)) →
   partS (d+1) fs v flex (cnP (d+1) v flex fs t)=partS (d+1) fs v flex t∧FitW v (d+1) fs (cnP (d+1) v flex fs t):=by
  intro d fs t htag hf hfit
  have hk:=knownS_none htag
  have e2:∀ x,tagsS (partS d) (d+1) fs v flex x=[]:=fun x=>by unfold tagsS;rw [hk];rfl
  have hat:∀ k (h:k < fs.length),(cnP (d+1) v flex fs t).at k=if fs[k].tag < 0∧hasS fs[k] v=true then cnF (cnP d v flex) v fs[k] (t.at k) else dfF (dfP d) fs[k]:=fun k h=>by
   have:=cnL_get (cnP d v flex) (dfP d) v t fs 0 k h
   rw [Nat.zero_add] at this
   exact this
  have hu:(cnP (d+1) v flex fs t).u=if flex=true then fitU fs t.u else []:=rfl
  constructor
  ·have e6:plainS (partS d) fs v flex (cnP (d+1) v flex fs t)=plainS (partS d) fs v flex t:=by
    unfold plainS
    refine flatMap_ext fun x hx => ?_
    obtain ⟨f,i⟩:=x
    rw [List.mem_zipIdx_iff_getElem?] at hx
    obtain ⟨hi,he⟩:=List.getElem?_eq_some_iff.1 hx
    simp only at hi he ⊢
    by_cases hc:f.tag < 0∧hasS f v=true
    ·rw [if_pos hc,if_pos hc,hat i hi,he,if_pos hc]
     exact hf f (by rw [← he];exact List.getElem_mem _) _
    ·rw [if_neg hc,if_neg hc]
   rw [partS_eq,partS_eq]
   unfold partT
   rw [e2,e2,e6]
   cases flex with
   | false=>rfl
   | true =>
    simp only [if_true]
    have e1:unknownS fs (fitU fs t.u)=fitU fs t.u:=unknownS_id (fitU_fit fs t.u)
    have e3:(fitU fs t.u).flatMap unkT=(unknownS fs t.u).flatMap unkT:=by
     rw [fitU,List.flatMap_map]
     congr 1;funext x
     simp only [unkT];rw [wholeS_id (wholeS_len x.2)]
    have e4:(fitU fs t.u).length=(unknownS fs t.u).length:=by simp [fitU]
    rw [hu,if_pos rfl,e1,e3,e4]
  ·refine ⟨?_,?_⟩
   ·have:∀ (l:List Fld) (i:Nat),i+l.length=fs.length→(∀ k (hk:k < l.length) (hk2:i+k < fs.length),l[k] = fs[i+k])→FitWL (FitW v d) v (cnP (d+1) v flex fs t) l i:=by
     intro l
     induction l with
     | nil=>intro i _ _;trivial
     | cons f l ihl =>
      intro i hi hl
      simp only [List.length_cons] at hi
      have e:=hl 0 (by simp) (by omega)
      simp only [List.getElem_cons_zero,Nat.add_zero] at e
      refine ⟨fun hh => ?_,ihl (i+1) (by omega) fun k hk hk2 => ?_⟩
      ·have hm:f∈fs:=by rw [e];exact List.getElem_mem _
       rw [hat i (by omega),← e,if_pos ⟨htag f hm,hh⟩]
       exact hfit f hm _
      ·have:=hl (k+1) (by simpa using hk) (by omega)
       simp only [List.getElem_cons_succ] at this
       rw [this];congr 1;omega
    exact this fs 0 (by omega) fun k hk hk2=>by simp
   ·rw [hu]
    split
    ·exact fitU_fit _ _
    ·exact ⟨by simp,fun x h=>(by cases h),List.Pairwise.nil⟩
 intro d
 induction d with
 | zero =>
  intro fs t h
  have hnil:fs=[]:=by simpa [okR] using h
  subst hnil
  exact key 0 [] t (fun _ h=>by cases h) (fun _ h=>by cases h) (fun _ h=>by cases h)
 | succ d ih =>
  intro fs t h
  refine key (d+1) fs t (fun f hf=>(okR_el h hf).1) (fun f hf x => ?_) (fun f hf x => ?_)
  ·obtain ⟨g1,g2,g3,g4,g5,g6⟩:=okR_el h hf
   exact fieldS_cn f x g2 g3 g4 fun y=>(ih f.sub y g5).1
  ·obtain ⟨g1,g2,g3,g4,g5,g6⟩:=okR_el h hf
   exact fit_cn f x g2 g4 (fun y=>(ih f.sub y g5).2) fun y=>cnP_null _ _ _ _ _

theorem nullS_early {f:Fld} {v:Int} {t:Tree} (h:v < f.null):nullS f v t=false:=by
 unfold nullS
 have:decide (v ≥ f.null)=false:=by simp;omega
 rw [this];simp
section
variable {P : List Fld→Tree→Prop} {V:Int} {f:Fld} {t:Tree}
theorem FitWF.listL (h:FitWF P V f t) (hk:f.kind=11) {L:List Tree} (hL:L=if nullS f V t=true then [] else t.l):L.length≤32767∧∀ x∈L,Fit1 P f.of f.sub x:=by
 subst hL
 split
 ·exact ⟨by simp,fun x hx=>by cases hx⟩
 ·exact h.list hk
theorem RepF_listN {R:List Fld→Rel Tree} {S:List Fld→Nat} {ok:Blocks} {w:World} {c:List Value} (hg:FitWF P V f t) (h:f.kind=11) (hn:0≤f.null) (hr:RepF R S f ok w t c) :
  ∃ v L,c=[v]∧L=(if nullS f V t=true then [] else t.l)∧SlR ok w (sz1 S f.of f.sub) (Rep1 R f.of f.sub ok w) v L∧∀ a n k,v = .slice a n k→a.isNone=nullS f V t:=by
 unfold RepF at hr
 rw [if_neg (by omega),if_pos h] at hr
 obtain ⟨v,rfl,hr⟩:=hr
 rw [hg.isnull hn] at hr
 refine ⟨v,_,rfl,rfl,?_⟩
 by_cases ht:nullS f V t=true
 ·rw [if_pos ht] at hr ⊢
  subst hr
  refine ⟨⟨[],⟨none,0,rfl,Nat.le_refl _,by simp,.inl rfl⟩,rfl,fun i h=>by simp at h⟩,fun a n k e => ?_⟩
  cases e;rw [ht];rfl
 ·rw [if_neg ht] at hr ⊢
  refine ⟨hr.1,fun a n k e => ?_⟩
  obtain ⟨a',n',k',e'⟩:=hr.2
  rw [e'] at e;cases e
  cases hb:nullS f V t with
  | true=>exact absurd hb ht
  | false=>rfl
variable {pt : List Fld→Int→Bool→Tree→List UInt8} {flex:Bool}
theorem fieldS_listN (hg:FitWF P V f t) (hk:f.kind=11) {L:List Tree} (hL:L=if nullS f V t=true then [] else t.l) {g:Tree→List UInt8} (hx:∀ x∈L,valueS pt f.of f.sub false V flex x=g x):fieldS pt f V flex t=countedS flex (nullS f V t) L.length 4++L.flatMap g:=by
 unfold fieldS
 rw [if_pos hk,thingsS_id (hg.list hk).1,← hL,flatMap_ext hx]
end

section
variable {P : Program}
theorem wp_appendIn {T X E:TypeId} {size bytes:Nat} (F:AppT P T X E size bytes) {w:World} {ρ:Regs} {d:Option Nat} {x y:Operand} {type:TypeId} {pos:String} {after:Array Edge} {guard:Option (Nat × Bool)} {K:Regs→World→Prop} {u:Value} {g n m cap:Nat} {xb:Blk} {news:List Value}
  (hv:ev ρ x = .slice (some ⟨g,0,none⟩) n cap) (hu:ev ρ y=u) (hb:blk w g=some xb) (hx:Src w size u m news) (hle:n+m≤cap) (hsz:n * size+news.length≤xb.1.size) (hth:xb.2.2.2≤n * size∨n * size+news.length≤xb.2.2.1)
  (hk:K (put ρ d (.slice (some ⟨g,0,none⟩) (n+m) cap)) (wr w g (n * size) news)) :
  rawK P { dst:=d,op:=.call { callee:=.builtin .append,args:=#[x,y],argTypes:=#[T,X] },type:=type,pos:=pos,after:=after,guard:=guard } ρ w K:=by
 refine ⟨?_⟩
 obtain ⟨ei,z,hi,hs,hby,hz,hzs⟩:=F.info
 have hst:=run_storeCells (P:=P) news w (n * size) 0 _ hb (by simpa using hsz) (by simpa using hth) hx.2.1
 simp only [Nat.add_zero] at hst
 have h1:(Builtin.append_ #[T,X] type #[.slice (some ⟨g,0,none⟩) n cap,u]).run P w = .ok (.slice (some ⟨g,0,none⟩) (n+m) cap) (wr w g (n * size) news):=by
  rw [run_append_prefix F hx (.inl hle) type hi hby hs,if_pos hle]
  simp only [Sem.run_bind,run_firstCells hx,Result.andThen_ok,add_plain,Nat.zero_add,hst,Sem.run_pure]
 have:(execOp (ev ρ) { dst:=d,op:=.call { callee:=.builtin .append,args:=#[x,y],argTypes:=#[T,X] },type:=type,pos:=pos,after:=after,guard:=guard }).run P w = .ok (.value (.slice (some ⟨g,0,none⟩) (n+m) cap)) (wr w g (n * size) news):=by
  simp only [execOp,resolve,Sem.run_bind,Sem.run_pure,Result.andThen_ok,invoke,builtin,List.map_toArray,List.map_cons,List.map_nil,hv,hu,h1]
 rw [this]
 exact hk
theorem convK_strV (P:Program) (S T:TypeId) (s:List UInt8) (k:Value→Prop) (raw:Prop):convK P S T (strV s) k raw=raw:=nr rfl
end
theorem OwnBy.front {B:Nat} {w w':World} {E:TypeId} {g cap:Nat} {s a:List UInt8} (h:OwnBy E B w (.slice (some ⟨g,0,none⟩) s.length cap) s) (ha:a.length≤s.length) (hb:blk w' g=(blk w g).map fun x=>(wrArr x.1 0 (a.map byteV),x.2)):OwnBy E B w' (.slice (some ⟨g,0,none⟩) s.length cap) (a++s.drop a.length):=by
 obtain ⟨h0,h⟩:=h
 have hl:(a++s.drop a.length).length=s.length:=by rw [List.length_append,List.length_drop];omega
 refine ⟨by rw [List.length_map,Nat.mul_one],?_⟩
 rcases h with ⟨h,_⟩|⟨g',cap',rest,fr,h1,h2,h3,h4,h5,h6⟩
 ·cases h
 ·cases h1
  refine .inr ⟨g,cap,rest,fr,by rw [hl],h2,?_,by rw [List.length_map,hl];rw [List.length_map] at h4;exact h4,h5,by rw [hl];exact h6⟩
  rw [hb,h3,Option.map_some]
  congr 2
  apply Array.ext_getElem?
  intro i
  rw [wrArr_get]
  simp only [List.size_toArray,List.length_append,List.length_map,List.getElem?_toArray,List.map_append,List.map_drop,Nat.sub_zero,Nat.zero_add,Nat.zero_le,true_and]
  by_cases hi:i < a.length
  ·rw [if_pos (by omega),List.getElem?_append_left (by simp;omega),List.getElem?_append_left (by simp;omega)]
  ·rw [if_neg (by omega)]
   by_cases hi2:i < s.length
   ·rw [List.getElem?_append_left (by simp;omega),List.getElem?_append_left (by simp;omega),List.getElem?_append_right (by simp;omega),List.getElem?_drop]
    congr 1;simp;omega
   ·rw [List.getElem?_append_right (by simp;omega),List.getElem?_append_right (by simp;omega)]
    congr 1;simp;omega

def frameB (key ver number:Int) (null:Bool) (id:List UInt8) (flex:Bool) (body:List UInt8):List UInt8 :=
 fixedS key 2++fixedS ver 2++fixedS number 4++(if null=true then fixedS (-1) 2 else fixedS id.length 2++id)++(if flex=true then [0] else [])++body
def frameS (key ver number:Int) (null:Bool) (id:List UInt8) (flex:Bool) (body:List UInt8):List UInt8 :=
 fixedS (frameB key ver number null id flex body).length 4++frameB key ver number null id flex body
theorem frameB_len (key ver number:Int) (null:Bool) (id:List UInt8) (flex:Bool) (body:List UInt8) (h:id.length≤32767):(frameB key ver number null id flex body).length≤32780+body.length:=by
 unfold frameB
 simp only [List.length_append,fixedS_len]
 split<;>split<;>simp only [List.length_append,fixedS_len,List.length_cons,List.length_nil]<;>omega
structure ReqOk (P:Program) (E T:TypeId) (mp:Value) (B:Nat) (key ver:Int) (flex:Bool) (body:List UInt8) (Gd:World→Prop):Prop where
 keep:∀ w w',Gd w→Upd (fun b=>B≤b) w w'→Gd w'
 recv:recvOk P T true=true
 key : ∃ f,methodP P T "Key" = some (f,true) ∧ callable P f = true ∧ ∀ w,Gd w → Fn P f #[mp] w fun r w' => r = .int .i16 key ∧ w' = w
 ver : ∃ f,methodP P T "GetVersion" = some (f,true) ∧ callable P f = true ∧ ∀ w,Gd w → Fn P f #[mp] w fun r w' => r = .int .i16 ver ∧ w' = w
 flex : ∃ f,methodP P T "IsFlexible" = some (f,true) ∧ callable P f = true ∧ ∀ w,Gd w → Fn P f #[mp] w fun r w' => r = .bool flex ∧ w' = w
 app : ∃ f,methodP P T "AppendTo" = some (f,true) ∧ callable P f = true ∧ ∀ w v s B',Gd w → B ≤ B' → B' ≤ w.heap.size → OwnBy E B' w v s → s.length ≤ 40000 → Fn P f #[mp,v] w fun r w' => AppR E B' w v s body r w'
end Ms

namespace Ms
open Go.World renaming size_alloc → qI
open Ms renaming size_wr → qJ,size_drew → qK,not_noB → qL
open W renaming seqR → qA,seq → qB,regR → qC,condK → qD,block → qE,skip → qF,ret → qG,exit → qH
open Nat renaming reduceEqDiff → n0,reduceAdd → n1,reduceMul → n2,reduceSub → n3,reduceLT → n4,reduceLeDiff → n5
open Int renaming reduceEq → i0,reduceLT → i1,reduceLE → i2,reduceNeg → i3,reduceAdd → i4,reduceSub → i5,reduceMul → i6,reduceToNat → i7
set_option maxRecDepth 8000
set_option maxHeartbeats 24000000
open Go Go.Proofs Go.Shelf
attribute [local congr] W_congr WPsq_congr WPp_congr optK_congr addrK_congr intK_congr boolK_congr sliceK_congr tupleK_congr funcK_congr Fn_congr rawK_congr takeK_congr stepK_congr convK_congr aggK_congr

theorem AppendUint32In_fn {g cap:Nat} {xb:Blk} (w:World) (hb:blk w g=some xb) (hc:4≤cap) (hx:4≤xb.1.size) (hth:xb.2.2.2≤0∨4≤xb.2.2.1) (u:Int) (hu:0≤u∧u < 4294967296) :
  Fn Tryz.prog 69 #[.slice (some ⟨g,0,none⟩) 0 cap,.int .u32 u] w fun _ w'=>Upd (fun b=>b=g) w w'∧blk w' g=(blk w g).map fun x=>(wrArr x.1 0 ((fixedS u 4).map byteV),x.2):=by
 refine fn_of_W Tryz.func69 rfl Tryz.results69 Tryz.ntmps69 rfl ?_
 have e1:u.fdiv (2 ^ (min 8 32))=u.fdiv 256:=by rw [show (2:Int) ^ (min 8 32)=256 by decide]
 have e2:u.fdiv (2 ^ (min 16 32))=u.fdiv 65536:=by rw [show (2:Int) ^ (min 16 32)=65536 by decide]
 have e3:u.fdiv (2 ^ (min 24 32))=u.fdiv 16777216:=by rw [show (2:Int) ^ (min 24 32)=16777216 by decide]
 repeat ((first|refine qA rfl ?_|apply qB|refine qC rfl ?_|apply qD|apply qE|apply qF|apply qG|apply qH);try simp (disch:=(first|omega|(simp only [qI,qJ,qK]<;>omega)|exact qL _)) only [go_sem,↓reduceIte,n0,reduceCtorEq,n1,n2,n3,n4,n5,i0,i1,i2,i3,i4,i5,i6,i7,kbits,e1,e2,e3,u8_byte])
 have hbl:=blk_lt hb
 have hb1:blk (w.alloc (.cells #[byteV (b8 (u.fdiv 16777216)),byteV (b8 (u.fdiv 65536)),byteV (b8 (u.fdiv 256)),byteV (b8 u)] 5)) g=some xb:=by rw [blk_alloc_old (by omega)];exact hb
 have hU1:Upd (fun b=>b=g) w (w.alloc (.cells #[byteV (b8 (u.fdiv 16777216)),byteV (b8 (u.fdiv 65536)),byteV (b8 (u.fdiv 256)),byteV (b8 u)] 5)):=Upd.alloc (Upd.refl _ _) _
 have hs1:Src (w.alloc (.cells #[byteV (b8 (u.fdiv 16777216)),byteV (b8 (u.fdiv 65536)),byteV (b8 (u.fdiv 256)),byteV (b8 u)] 5)) 1 (.slice (some ⟨w.heap.size,0,none⟩) 4 4) 4 [byteV (b8 (u.fdiv 16777216)),byteV (b8 (u.fdiv 65536)),byteV (b8 (u.fdiv 256)),byteV (b8 u)]:=Src.blk (fr:=(0,0)) (T:=5) (blk_alloc_new rfl) rfl rfl
 refine wp_appendIn ap_24_24 (g:=g) (n:=0) (m:=4) (cap:=cap) (xb:=xb) (news:=[byteV (b8 (u.fdiv 16777216)),byteV (b8 (u.fdiv 65536)),byteV (b8 (u.fdiv 256)),byteV (b8 u)]) (by first|rfl|simp (disch:=(first|omega|(simp only [qI,qJ,qK]<;>omega)|exact qL _)) only [go_sem,↓reduceIte,n0,reduceCtorEq,n1,n2,n3,n4,n5,i0,i1,i2,i3,i4,i5,i6,i7]) (by first|rfl|simp (disch:=(first|omega|(simp only [qI,qJ,qK]<;>omega)|exact qL _)) only [go_sem,↓reduceIte,n0,reduceCtorEq,n1,n2,n3,n4,n5,i0,i1,i2,i3,i4,i5,i6,i7]) hb1 hs1 (by omega) (by simpa using hx) (by simpa using hth) ?_
 simp (disch:=(first|omega|(simp only [qI,qJ,qK]<;>omega)|exact qL _)) only [go_sem,↓reduceIte,n0,reduceCtorEq,n1,n2,n3,n4,n5,i0,i1,i2,i3,i4,i5,i6,i7]
 repeat ((first|refine qA rfl ?_|apply qB|refine qC rfl ?_|apply qD|apply qE|apply qF|apply qG|apply qH);try simp (disch:=(first|omega|(simp only [qI,qJ,qK]<;>omega)|exact qL _)) only [go_sem,↓reduceIte,n0,reduceCtorEq,n1,n2,n3,n4,n5,i0,i1,i2,i3,i4,i5,i6,i7])
 rw [fixedS_four]
 refine ⟨hU1.wr _ _ (.inr rfl),?_⟩
 rfl

theorem AppendInt32In_fn {g cap:Nat} {xb:Blk} (w:World) (hb:blk w g=some xb) (hc:4≤cap) (hx:4≤xb.1.size) (hth:xb.2.2.2≤0∨4≤xb.2.2.1) (n:Int) :
  Fn Tryz.prog 60 #[.slice (some ⟨g,0,none⟩) 0 cap,.int .i32 n] w fun _ w'=>Upd (fun b=>b=g) w w'∧blk w' g=(blk w g).map fun x=>(wrArr x.1 0 ((fixedS n 4).map byteV),x.2):=by
 refine fn_of_W Tryz.func60 rfl Tryz.results60 Tryz.ntmps60 rfl ?_
 repeat ((first|refine qA rfl ?_|apply qB|refine qC rfl ?_|apply qD|apply qE|apply qF|apply qG|apply qH);try simp (disch:=(first|omega|(simp only [qI,qJ,qK]<;>omega)|exact qL _)) only [go_sem,↓reduceIte,n0,reduceCtorEq,n1,n2,n3,n4,n5,i0,i1,i2,i3,i4,i5,i6,i7])
 have hw:IntKind.u32.wrap n=n % 4294967296:=by unfold IntKind.wrap;simp [IntKind.bits,IntKind.signed]
 rw [hw]
 refine (AppendUint32In_fn w hb hc hx hth (n % 4294967296) (by omega)).mono ?_
 rintro r w1 h
 repeat ((first|refine qA rfl ?_|apply qB|refine qC rfl ?_|apply qD|apply qE|apply qF|apply qG|apply qH);try simp (disch:=(first|omega|(simp only [qI,qJ,qK]<;>omega)|exact qL _)) only [go_sem,↓reduceIte,n0,reduceCtorEq,n1,n2,n3,n4,n5,i0,i1,i2,i3,i4,i5,i6,i7])
 rw [← fixed_mod n _ rfl];exact h

theorem zzFits4_fn (has:Bool) (s:List UInt8) (w:World):Fn Tryz.prog 4 #[.agg #[.bool has,strV s]] w fun r w'=>(∃ b,r = .bool b)∧Ext w w':=by
 refine fn_of_W Tryz.func4 rfl Tryz.results4 Tryz.ntmps4 rfl ?_
 have hE:Ext w (w.alloc (.cells #[.bool has,strV s] 23)):=Upd.alloc (Upd.refl _ _) _
 by_cases h:(2147483647:Int) < (s.length:Int)
 ·repeat ((first|refine qA rfl ?_|apply qB|refine qC rfl ?_|apply qD|apply qE|apply qF|apply qG|apply qH);try simp (disch:=(first|omega|(simp only [qI,qJ,qK]<;>omega)|exact qL _)) only [go_sem,↓reduceIte,n0,reduceCtorEq,n1,n2,n3,n4,n5,i0,i1,i2,i3,i4,i5,i6,i7,cells_strV,flat_strV,lenV_strV,h])
  all_goals exact ⟨⟨_,rfl⟩,hE⟩
 ·repeat ((first|refine qA rfl ?_|apply qB|refine qC rfl ?_|apply qD|apply qE|apply qF|apply qG|apply qH);try simp (disch:=(first|omega|(simp only [qI,qJ,qK]<;>omega)|exact qL _)) only [go_sem,↓reduceIte,n0,reduceCtorEq,n1,n2,n3,n4,n5,i0,i1,i2,i3,i4,i5,i6,i7,cells_strV,flat_strV,lenV_strV,h])
  all_goals exact ⟨⟨_,rfl⟩,hE⟩

theorem NewReq0_fn (w:World):Fn Tryz.prog 34 #[.slice none 0 0] w fun r w'=>r = .pointer (some ⟨w.heap.size,0,none⟩)∧blk w' w.heap.size=some (#[.pointer none],109,(0,0))∧Ext w w':=by
 refine fn_of_W Tryz.func34 rfl Tryz.results34 Tryz.ntmps34 rfl ?_
 repeat ((first|refine qA rfl ?_|apply qB|refine qC rfl ?_|apply qD|apply qE|apply qF|apply qG|apply qH);try simp (disch:=(first|omega|(simp only [qI,qJ,qK]<;>omega)|exact qL _)) only [go_sem,↓reduceIte,n0,reduceCtorEq,n1,n2,n3,n4,n5,i0,i1,i2,i3,i4,i5,i6,i7])
 refine W.loop (fun ρ w'=>ρ 9 = .int .i64 0∧ρ 8 = .int .i64 0∧ρ 3 = .pointer (some ⟨w.heap.size,0,none⟩)∧w'=w.alloc (.cells #[.pointer none] 109)) (fun _ _=>0) ?_ ?_
 ·refine ⟨?_,?_,?_,rfl⟩<;>(try simp (disch:=(first|omega|(simp only [qI,qJ,qK]<;>omega)|exact qL _)) only [go_sem,↓reduceIte,n0,reduceCtorEq,n1,n2,n3,n4,n5,i0,i1,i2,i3,i4,i5,i6,i7])<;>(try rfl)
 ·rintro ρ w5 ⟨h9,h8,h3,rfl⟩
  repeat ((first|refine qA rfl ?_|apply qB|refine qC rfl ?_|apply qD|apply qE|apply qF|apply qG|apply qH);try simp (disch:=(first|omega|(simp only [qI,qJ,qK]<;>omega)|exact qL _)) only [go_sem,↓reduceIte,n0,reduceCtorEq,n1,n2,n3,n4,n5,i0,i1,i2,i3,i4,i5,i6,i7,h9,h8,h3])
  first|exact ⟨blk_alloc_new rfl,Upd.alloc (Upd.refl _ _) _⟩|exact Upd.alloc (Upd.refl _ _) _

theorem ClientID_fn (s:List UInt8) (w:World):Fn Tryz.prog 35 #[strV s] w fun r w'=>r = .iface 112 (.agg #[.func (.func 58) #[] #[.pointer (some ⟨w.heap.size,0,none⟩)]])∧blk w' w.heap.size=some (#[strV s],9,(0,0))∧Ext w w':=by
 refine fn_of_W Tryz.func35 rfl Tryz.results35 Tryz.ntmps35 rfl ?_
 repeat ((first|refine qA rfl ?_|apply qB|refine qC rfl ?_|apply qD|apply qE|apply qF|apply qG|apply qH);try simp (disch:=(first|omega|(simp only [qI,qJ,qK]<;>omega)|exact qL _)) only [go_sem,↓reduceIte,n0,reduceCtorEq,n1,n2,n3,n4,n5,i0,i1,i2,i3,i4,i5,i6,i7,cells_strV,flat_strV])
 first|exact ⟨blk_alloc_new rfl,Upd.alloc (Upd.refl _ _) _⟩|exact Upd.alloc (Upd.refl _ _) _

theorem setID_fn {fp q:Nat} {c:Value} (w:World) (hb:blk w fp=some (#[c],109,(0,0))):Fn Tryz.prog 58 #[.pointer (some ⟨fp,0,none⟩),.pointer (some ⟨q,0,none⟩)] w fun r w'=>r = .tuple #[]∧w'=wr w fp 0 [.pointer (some ⟨q,0,none⟩)]:=by
 refine fn_of_W Tryz.func58 rfl Tryz.results58 Tryz.ntmps58 rfl ?_
 repeat ((first|refine qA rfl ?_|apply qB|refine qC rfl ?_|apply qD|apply qE|apply qF|apply qG|apply qH);try simp (disch:=(first|omega|(simp only [qI,qJ,qK]<;>omega)|exact qL _)) only [go_sem,↓reduceIte,n0,reduceCtorEq,n1,n2,n3,n4,n5,i0,i1,i2,i3,i4,i5,i6,i7,hb])
 all_goals first|rfl|exact ⟨rfl,rfl⟩

theorem apply_fn {fp q:Nat} {c:Value} (w:World) (hb:blk w fp=some (#[c],109,(0,0))):Fn Tryz.prog 141 #[.agg #[.func (.func 58) #[] #[.pointer (some ⟨q,0,none⟩)]],.pointer (some ⟨fp,0,none⟩)] w fun _ w'=>blk w' fp=some (#[.pointer (some ⟨q,0,none⟩)],109,(0,0))∧Upd (fun b=>b=fp) w w':=by
 have hl:=blk_lt hb
 refine fn_of_W Tryz.func141 rfl Tryz.results141 Tryz.ntmps141 rfl ?_
 repeat ((first|refine qA rfl ?_|apply qB|refine qC rfl ?_|apply qD|apply qE|apply qF|apply qG|apply qH);try simp (disch:=(first|omega|(simp only [qI,qJ,qK]<;>omega)|exact qL _)) only [go_sem,↓reduceIte,n0,reduceCtorEq,n1,n2,n3,n4,n5,i0,i1,i2,i3,i4,i5,i6,i7])
 have hE:Upd (fun b=>b=fp) w (w.alloc (.cells #[.func (.func 58) #[] #[.pointer (some ⟨q,0,none⟩)]] 112)):=Upd.alloc (Upd.refl _ _) _
 have hb1:blk (w.alloc (.cells #[.func (.func 58) #[] #[.pointer (some ⟨q,0,none⟩)]] 112)) fp=some (#[c],109,(0,0)):=by rw [blk_alloc_old (by omega)];exact hb
 refine (setID_fn _ hb1).mono ?_
 rintro r w2 ⟨rfl,rfl⟩
 repeat ((first|refine qA rfl ?_|apply qB|refine qC rfl ?_|apply qD|apply qE|apply qF|apply qG|apply qH);try simp (disch:=(first|omega|(simp only [qI,qJ,qK]<;>omega)|exact qL _)) only [go_sem,↓reduceIte,n0,reduceCtorEq,n1,n2,n3,n4,n5,i0,i1,i2,i3,i4,i5,i6,i7])
 refine ⟨by rw [blk_wr_eq,hb1];rfl,hE.wr _ _ (.inr rfl)⟩

theorem optApply : methodP Tryz.prog 112 "pub-mailsack/pub/kmsg.apply" = some (141,false) := by kernel_rfl
theorem optRecv : recvOk Tryz.prog 112 false=true:=by kernel_rfl
theorem optCall : callable Tryz.prog 141=true:=by kernel_rfl

theorem NewReq1_fn {q b:Nat} (w:World) (hb:blk w b=some (#[.iface 112 (.agg #[.func (.func 58) #[] #[.pointer (some ⟨q,0,none⟩)]])],83,(0,0))) :
  Fn Tryz.prog 34 #[.slice (some ⟨b,0,none⟩) 1 1] w fun r w'=>r = .pointer (some ⟨w.heap.size,0,none⟩)∧blk w' w.heap.size=some (#[.pointer (some ⟨q,0,none⟩)],109,(0,0))∧Ext w w':=by
 have hl:=blk_lt hb
 refine fn_of_W Tryz.func34 rfl Tryz.results34 Tryz.ntmps34 rfl ?_
 repeat ((first|refine qA rfl ?_|apply qB|refine qC rfl ?_|apply qD|apply qE|apply qF|apply qG|apply qH);try simp (disch:=(first|omega|(simp only [qI,qJ,qK]<;>omega)|exact qL _)) only [go_sem,↓reduceIte,n0,reduceCtorEq,n1,n2,n3,n4,n5,i0,i1,i2,i3,i4,i5,i6,i7])
 have hE1:Ext w (w.alloc (.cells #[.pointer none] 109)):=Upd.alloc (Upd.refl _ _) _
 have hb1:=hE1.blk_some hb id
 have hn1:blk (w.alloc (.cells #[.pointer none] 109)) w.heap.size=some (#[.pointer none],109,(0,0)):=blk_alloc_new rfl
 generalize w.alloc (.cells #[.pointer none] 109)=w1 at *
 refine W.loop (fun ρ w'=>ρ 8 = .int .i64 1∧ρ 7 = .slice (some ⟨b,0,none⟩) 1 1∧ρ 3 = .pointer (some ⟨w.heap.size,0,none⟩)∧((ρ 9 = .int .i64 0∧w'=w1)∨(ρ 9 = .int .i64 1∧blk w' w.heap.size=some (#[.pointer (some ⟨q,0,none⟩)],109,(0,0))∧Ext w w'))) (fun ρ _=>1 - (RowKit.intOf (ρ 9)).toNat) ?_ ?_
 ·refine ⟨?_,?_,?_,.inl ⟨?_,rfl⟩⟩<;>(try simp (disch:=(first|omega|(simp only [qI,qJ,qK]<;>omega)|exact qL _)) only [go_sem,↓reduceIte,n0,reduceCtorEq,n1,n2,n3,n4,n5,i0,i1,i2,i3,i4,i5,i6,i7])<;>(try rfl)
 ·rintro ρ w5 ⟨h8,h7,h3,⟨h9,rfl⟩|⟨h9,hn5,hE5⟩⟩
  ·repeat ((first|refine qA rfl ?_|apply qB|refine qC rfl ?_|apply qD|apply qE|apply qF|apply qG|apply qH);try simp (disch:=(first|omega|(simp only [qI,qJ,qK]<;>omega)|exact qL _)) only [go_sem,↓reduceIte,n0,reduceCtorEq,n1,n2,n3,n4,n5,i0,i1,i2,i3,i4,i5,i6,i7,h9,h8,h7,h3,hb1,↓step_invoke])
   refine wp_invoke (T:=112) (v:=.agg #[.func (.func 58) #[] #[.pointer (some ⟨q,0,none⟩)]]) (by simp (disch:=(first|omega|(simp only [qI,qJ,qK]<;>omega)|exact qL _)) only [go_sem,↓reduceIte,n0,reduceCtorEq,n1,n2,n3,n4,n5,i0,i1,i2,i3,i4,i5,i6,i7]) optApply optRecv optCall ?_
   try simp (disch:=(first|omega|(simp only [qI,qJ,qK]<;>omega)|exact qL _)) only [go_sem,↓reduceIte,n0,reduceCtorEq,n1,n2,n3,n4,n5,i0,i1,i2,i3,i4,i5,i6,i7]
   refine (apply_fn w5 hn1).mono ?_
   rintro r w6 ⟨hn6,hU6⟩
   try simp (disch:=(first|omega|(simp only [qI,qJ,qK]<;>omega)|exact qL _)) only [go_sem,↓reduceIte,n0,reduceCtorEq,n1,n2,n3,n4,n5,i0,i1,i2,i3,i4,i5,i6,i7]
   repeat ((first|refine qA rfl ?_|apply qB|refine qC rfl ?_|apply qD|apply qE|apply qF|apply qG|apply qH);try simp (disch:=(first|omega|(simp only [qI,qJ,qK]<;>omega)|exact qL _)) only [go_sem,↓reduceIte,n0,reduceCtorEq,n1,n2,n3,n4,n5,i0,i1,i2,i3,i4,i5,i6,i7,h9])
   refine ⟨⟨h8,h7,h3,.inr (by first|exact ⟨hn6,hE1.more hU6 fun b hb h=>by omega⟩|exact ⟨rfl,hn6,hE1.more hU6 fun b hb h=>by omega⟩)⟩,?_⟩
   simp only [RowKit.intOf];omega
  ·repeat ((first|refine qA rfl ?_|apply qB|refine qC rfl ?_|apply qD|apply qE|apply qF|apply qG|apply qH);try simp (disch:=(first|omega|(simp only [qI,qJ,qK]<;>omega)|exact qL _)) only [go_sem,↓reduceIte,n0,reduceCtorEq,n1,n2,n3,n4,n5,i0,i1,i2,i3,i4,i5,i6,i7,h9,h8,h3])
   exact ⟨hn5,hE5⟩
end Ms

namespace Ms
open Go

def wrapN (k n:Int):Int:=if k=1 then IntKind.i8.wrap n else if k=2 then IntKind.i16.wrap n else if k=3 then IntKind.i32.wrap n else if k=5 then IntKind.u16.wrap n else n
def sortT (u:List TagD):List TagD:=u.mergeSort fun a b=>decide (a.1≤b.1)
def tl1 (tp:List Fld→Tree→Tree) (k:Int) (sub:List Fld) (x:Tree):Tree :=
 if k=0 then .num (if x.n % 2=1 then 1 else 0)
 else if k=7 then .oct false (uuidS x.s)
 else if k=8 then .oct false x.s
 else if k=9 then .oct x.null (if x.null=true then [] else x.s)
 else if k=10 then tp sub x
 else .num (wrapN k x.n)
def tlF (tp:List Fld→Tree→Tree) (f:Fld) (x:Tree):Tree :=
 if f.kind=8∧0≤f.null then .oct x.null (if x.null=true then [] else x.s)
 else if f.kind=11 then .mk 0 [] x.null ((if x.null=true then [] else x.l).map (tl1 tp f.of f.sub)) []
 else tl1 tp f.kind f.sub x
def tlL (tp:List Fld→Tree→Tree) (t:Tree):List Fld→Nat→List Tree
 | [],_=>[]
 | f :: fs,i=>tlF tp f (t.at i) :: tlL tp t fs (i+1)
def tlP : Nat→List Fld→Tree→Tree
 | 0,_,_=>.zero
 | d+1,fs,t=>.mk 0 [] false (tlL (tlP d) t fs 0) (sortT t.u)

def Good1 (G:List Fld→Tree→Prop) (k:Int) (sub:List Fld) (x:Tree):Prop:=(k=4→IntKind.i64.wrap x.n=x.n)∧x.s.length≤32767∧(k=10→G sub x)
def GoodF (G:List Fld→Tree→Prop) (f:Fld) (x:Tree):Prop:=if f.kind=11 then x.l.length≤32767∧∀ y∈x.l,Good1 G f.of f.sub y else Good1 G f.kind f.sub x
def GoodL (G:List Fld→Tree→Prop) (t:Tree):List Fld→Nat→Prop
 | [],_=>True
 | f :: fs,i=>GoodF G f (t.at i)∧GoodL G t fs (i+1)
def GoodU (u:List TagD):Prop:=u.length≤32767∧(u.map (·.1)).Nodup∧∀ y∈u,y.2.length≤32767
def GoodP : Nat→List Fld→Tree→Prop
 | 0,_,_=>True
 | d+1,fs,t=>GoodL (GoodP d) t fs 0∧GoodU t.u
theorem GoodF.one {G:List Fld→Tree→Prop} {f:Fld} {x:Tree} (h:GoodF G f x) (hk:f.kind≠11):Good1 G f.kind f.sub x:=by unfold GoodF at h;rw [if_neg hk] at h;exact h
theorem GoodF.list {G:List Fld→Tree→Prop} {f:Fld} {x:Tree} (h:GoodF G f x) (hk:f.kind=11):x.l.length≤32767∧∀ y∈x.l,Good1 G f.of f.sub y:=by unfold GoodF at h;rw [if_pos hk] at h;exact h
theorem GoodF.listL {G:List Fld→Tree→Prop} {f:Fld} {x:Tree} (h:GoodF G f x) (hk:f.kind=11) {L:List Tree} (hL:L=if x.null=true then [] else x.l):L.length≤32767∧∀ y∈L,Good1 G f.of f.sub y:=by
 subst hL
 split
 ·exact ⟨by simp,fun y hy=>by cases hy⟩
 ·exact h.list hk
theorem bytesRow_list (s:List UInt8) (cap:Nat):bytesRow ⟨s.toArray⟩ cap=(s.map byteV++List.replicate (cap - s.length) (Value.int .u8 0)).toArray:=by
 apply Array.ext'
 simp [bytesRow,ByteArray.size]
 exact fun _ _=>rfl
section
variable {P : Program}
theorem wp_octets {S T E:TypeId} (hs:P.underlying S=some .string) (hd:P.underlying T=some (.slice E)) (he:P.underlying E=some (.int .u8)) {s:List UInt8}
  {w:World} {ρ:Regs} {d:Option Nat} {x:Operand} {type:TypeId} {pos:String} {after:Array Edge} {guard:Option (Nat × Bool)} {K:Regs→World→Prop}
  (hx:ev ρ x=strV s) (hk:∀ a k w',BytesV (fun b=>w.heap.size≤b) w' (.slice (some a) s.length k) s→Ext w w'→K (put ρ d (.slice (some a) s.length k)) w') :
  rawK P { dst:=d,op:=.convert S T x,type:=type,pos:=pos,after:=after,guard:=guard } ρ w K:=by
 refine ⟨?_⟩
 have hr:=run_bytes_of_string w S T E ⟨s.toArray⟩ hs hd he
 have hsz:(⟨s.toArray⟩:ByteArray).size=s.length:=by simp [ByteArray.size]
 rw [hsz,bytesRow_list] at hr
 have hcap:s.length≤grownCap w s.length 0 E:=by unfold grownCap;simp only [Question.cut];omega
 generalize grownCap w s.length 0 E=cap at *
 have:(execOp (ev ρ) { dst:=d,op:=.convert S T x,type:=type,pos:=pos,after:=after,guard:=guard }).run P w = .ok (.value (.slice (some ⟨w.heap.size,0,none⟩) s.length cap)) (w.drew.alloc (.cells (s.map byteV++List.replicate (cap - s.length) (Value.int .u8 0)).toArray E ((s.map byteV++List.replicate (cap - s.length) (Value.int .u8 0)).toArray.size,(s.map byteV++List.replicate (cap - s.length) (Value.int .u8 0)).toArray.size+1))):=by
  have hr':(convert S T (strV s)).run P w=_:=hr
  simp only [execOp,hx,Sem.run_bind,hr',Result.andThen_ok,Sem.run_pure]
 rw [this]
 refine hk _ _ _ ?_ ((Upd.refl _ _).drew.alloc _)
 refine ⟨_,cap,by rw [List.length_map],by rw [List.length_map];exact hcap,fun cs hm => ?_,.inr ⟨_,rfl,rfl,Nat.le_refl _,_,blk_alloc_new rfl,fun i hi => ?_⟩⟩
 ·obtain ⟨b,_,rfl⟩:=List.mem_map.1 hm;rfl
 ·rw [bytes_flat] at hi ⊢
  simp only [Nat.zero_add,List.getElem?_toArray]
  exact List.getElem?_append_left hi
end
def LoopL (l:List (Nat × Value)) (ri:Nat) (I:Nat→World→Prop) (ρ:Regs) (w:World):Prop:=Holds l ρ∧∃ j:Nat,ρ ri = .int .i64 j∧I j w
def TreeRg (ok:Blocks) (w:World) (w':World) (r:Value) (t:Tree):Prop:=∃ cs,r = .agg cs.toArray∧TreeC (okN ok w.heap.size) w' t cs
end Ms

namespace Ms
open Go.World renaming size_alloc → qI
open Ms renaming size_wr → qJ,size_drew → qK,not_noB → qL
open W renaming seqR → qA,seq → qB,regR → qC,condK → qD,block → qE,skip → qF,ret → qG,exit → qH
open Nat renaming reduceEqDiff → n0,reduceAdd → n1,reduceMul → n2,reduceSub → n3,reduceLT → n4,reduceLeDiff → n5
open Int renaming reduceEq → i0,reduceLT → i1,reduceLE → i2,reduceNeg → i3,reduceAdd → i4,reduceSub → i5,reduceMul → i6,reduceToNat → i7
set_option maxRecDepth 8000
set_option maxHeartbeats 24000000
open Go Go.Proofs Go.Shelf
attribute [local congr] W_congr WPsq_congr WPp_congr optK_congr addrK_congr intK_congr boolK_congr sliceK_congr tupleK_congr funcK_congr Fn_congr rawK_congr takeK_congr stepK_congr convK_congr aggK_congr

theorem AppendRequest_fn {T:TypeId} {mp:Value} {B:Nat} {key ver:Int} {flex:Bool} {body:List UInt8} {Gd:World→Prop} (hR:ReqOk Tryz.prog 5 T mp B key ver flex body Gd) (hmp:flat mp=true) (w:World) (hG:Gd w) (hB:B≤w.heap.size) {ok:Blocks} {fp:Nat} {cid:Value} (hf:blk w fp=some (#[cid],109,(0,0))) (null:Bool) (x:List UInt8) (hp:PtrText ok w cid null x) (hx:x.length≤32767) (hbl:body.length≤2 ^ 40) (number:Int) (hkv:¬ (key=7∧ver=0)) :
  Fn Tryz.prog 36 #[.pointer (some ⟨fp,0,none⟩),.slice none 0 0,.iface T mp,.int .i32 number] w fun r w'=>OwnBy 5 w.heap.size w' r (frameS key ver number null x flex body)∧Ext w w':=by
 obtain ⟨fK,mK,cK,hK⟩:=hR.key
 obtain ⟨fV,mV,cV,hV⟩:=hR.ver
 obtain ⟨fF,mF,cF,hF⟩:=hR.flex
 obtain ⟨fA,mA,cA,hA⟩:=hR.app
 refine fn_of_W Tryz.func36 rfl Tryz.results36 Tryz.ntmps36 rfl ?_
 repeat ((first|refine qA rfl ?_|apply qB|refine qC rfl ?_|apply qD|apply qE|apply qF|apply qG|apply qH);try simp (disch:=(first|omega|(simp only [qI,qJ,qK]<;>omega)|exact qL _)) only [go_sem,↓reduceIte,n0,reduceCtorEq,n1,n2,n3,n4,n5,i0,i1,i2,i3,i4,i5,i6,i7])
 try simp only [List.cons_append,List.nil_append,List.append_nil]
 have hE1:Ext w (w.alloc (.cells #[.int .u8 0,.int .u8 0,.int .u8 0,.int .u8 0] 5)):=Upd.alloc (Upd.refl _ _) _
 have hs1:Src (w.alloc (.cells #[.int .u8 0,.int .u8 0,.int .u8 0,.int .u8 0] 5)) 1 (.slice (some ⟨w.heap.size,0,none⟩) 4 4) 4 (([0,0,0,0]:List UInt8).map byteV):=Src.blk (fr:=(0,0)) (T:=5) (blk_alloc_new rfl) rfl rfl
 generalize (w.alloc (.cells #[.int .u8 0,.int .u8 0,.int .u8 0,.int .u8 0] 5))=w1 at *
 have hz1:=hE1.size
 refine wp_append ap_24_24 (B:=w.heap.size) (n:=0) (cs:=[]) (m:=4) (news:=([0,0,0,0]:List UInt8).map byteV) (v:=.slice none 0 0) (u:=.slice (some ⟨w.heap.size,0,none⟩) 4 4) (by first|rfl|simp (disch:=(first|omega|(simp only [qI,qJ,qK]<;>omega)|exact qL _)) only [go_sem,↓reduceIte,n0,reduceCtorEq,n1,n2,n3,n4,n5,i0,i1,i2,i3,i4,i5,i6,i7]) (by first|rfl|simp (disch:=(first|omega|(simp only [qI,qJ,qK]<;>omega)|exact qL _)) only [go_sem,↓reduceIte,n0,reduceCtorEq,n1,n2,n3,n4,n5,i0,i1,i2,i3,i4,i5,i6,i7]) (Own.nil _ _ _ _) rfl hs1 hz1 (by omega) ?_
 intro v2 w2 h2 hU2 hf2
 have hE2:Ext w w2:=hE1.more hU2 fun b hb h=>by obtain ⟨a,n,c,h,_⟩:=h;cases h
 have ho2:OwnBy 5 w.heap.size w2 v2 [0,0,0,0]:=h2
 have hG2:=hR.keep _ _ hG (hE2.mono fun _ h=>h.elim)
 obtain ⟨a2,c2,rfl,_⟩:=ho2.shape
 try simp (disch:=(first|omega|(simp only [qI,qJ,qK]<;>omega)|exact qL _)) only [go_sem,↓reduceIte,n0,reduceCtorEq,n1,n2,n3,n4,n5,i0,i1,i2,i3,i4,i5,i6,i7]
 repeat ((first|refine qA rfl ?_|apply qB|refine qC rfl ?_|apply qD|apply qE|apply qF|apply qG|apply qH);try simp (disch:=(first|omega|(simp only [qI,qJ,qK]<;>omega)|exact qL _)) only [go_sem,↓reduceIte,n0,reduceCtorEq,n1,n2,n3,n4,n5,i0,i1,i2,i3,i4,i5,i6,i7,↓step_invoke])
 refine wp_invoke (by first|rfl|simp (disch:=(first|omega|(simp only [qI,qJ,qK]<;>omega)|exact qL _)) only [go_sem,↓reduceIte,n0,reduceCtorEq,n1,n2,n3,n4,n5,i0,i1,i2,i3,i4,i5,i6,i7]) mK hR.recv cK ?_
 try simp (disch:=(first|omega|(simp only [qI,qJ,qK]<;>omega)|exact qL _)) only [go_sem,↓reduceIte,n0,reduceCtorEq,n1,n2,n3,n4,n5,i0,i1,i2,i3,i4,i5,i6,i7]
 refine (hK w2 hG2).mono ?_
 rintro _ wq ⟨rfl,hwq⟩
 obtain rfl:=hwq.symm
 try simp (disch:=(first|omega|(simp only [qI,qJ,qK]<;>omega)|exact qL _)) only [go_sem,↓reduceIte,n0,reduceCtorEq,n1,n2,n3,n4,n5,i0,i1,i2,i3,i4,i5,i6,i7]
 repeat ((first|refine qA rfl ?_|apply qB|refine qC rfl ?_|apply qD|apply qE|apply qF|apply qG|apply qH);try simp (disch:=(first|omega|(simp only [qI,qJ,qK]<;>omega)|exact qL _)) only [go_sem,↓reduceIte,n0,reduceCtorEq,n1,n2,n3,n4,n5,i0,i1,i2,i3,i4,i5,i6,i7,↓step_invoke])
 refine wp_invoke (by first|rfl|simp (disch:=(first|omega|(simp only [qI,qJ,qK]<;>omega)|exact qL _)) only [go_sem,↓reduceIte,n0,reduceCtorEq,n1,n2,n3,n4,n5,i0,i1,i2,i3,i4,i5,i6,i7]) mV hR.recv cV ?_
 try simp (disch:=(first|omega|(simp only [qI,qJ,qK]<;>omega)|exact qL _)) only [go_sem,↓reduceIte,n0,reduceCtorEq,n1,n2,n3,n4,n5,i0,i1,i2,i3,i4,i5,i6,i7]
 refine (hV w2 hG2).mono ?_
 rintro _ wq ⟨rfl,hwq⟩
 obtain rfl:=hwq.symm
 try simp (disch:=(first|omega|(simp only [qI,qJ,qK]<;>omega)|exact qL _)) only [go_sem,↓reduceIte,n0,reduceCtorEq,n1,n2,n3,n4,n5,i0,i1,i2,i3,i4,i5,i6,i7]
 repeat ((first|refine qA rfl ?_|apply qB|refine qC rfl ?_|apply qD|apply qE|apply qF|apply qG|apply qH);try simp (disch:=(first|omega|(simp only [qI,qJ,qK]<;>omega)|exact qL _)) only [go_sem,↓reduceIte,n0,reduceCtorEq,n1,n2,n3,n4,n5,i0,i1,i2,i3,i4,i5,i6,i7,↓step_invoke])
 have hlen0:([0,0,0,0]:List UInt8).length=4:=rfl
 refine (AppendInt16_fn _ _ w2 ho2 (by have:=hE2.size;omega) key (by simp)).mono ?_
 rintro r3 w3 h3
 have hU3':Upd (fun b=>w.heap.size≤b) w2 w3:=h3.upd.mono fun b h=>Own.above ho2 h
 have hE3:Ext w w3:=hE2.more hU3' fun b hb h=>by omega
 have hG3:=hR.keep _ _ hG2 (hU3'.mono fun b h=>by omega)
 have ho3:=h3.own
 have hz3:=hE3.size
 obtain ⟨a3,c3,rfl,_⟩:=Own.shape ho3
 try simp (disch:=(first|omega|(simp only [qI,qJ,qK]<;>omega)|exact qL _)) only [go_sem,↓reduceIte,n0,reduceCtorEq,n1,n2,n3,n4,n5,i0,i1,i2,i3,i4,i5,i6,i7]
 repeat ((first|refine qA rfl ?_|apply qB|refine qC rfl ?_|apply qD|apply qE|apply qF|apply qG|apply qH);try simp (disch:=(first|omega|(simp only [qI,qJ,qK]<;>omega)|exact qL _)) only [go_sem,↓reduceIte,n0,reduceCtorEq,n1,n2,n3,n4,n5,i0,i1,i2,i3,i4,i5,i6,i7,↓step_invoke])
 refine (AppendInt16_fn _ _ w3 ho3 hz3 ver (by simp only [List.length_append,fixedS_len,hlen0];omega)).mono ?_
 rintro r4 w4 h4
 have hU4':Upd (fun b=>w.heap.size≤b) w3 w4:=h4.upd.mono fun b h=>Own.above ho3 h
 have hE4:Ext w w4:=hE3.more hU4' fun b hb h=>by omega
 have hG4:=hR.keep _ _ hG3 (hU4'.mono fun b h=>by omega)
 have ho4:=h4.own
 have hz4:=hE4.size
 obtain ⟨a4,c4,rfl,_⟩:=Own.shape ho4
 try simp (disch:=(first|omega|(simp only [qI,qJ,qK]<;>omega)|exact qL _)) only [go_sem,↓reduceIte,n0,reduceCtorEq,n1,n2,n3,n4,n5,i0,i1,i2,i3,i4,i5,i6,i7]
 repeat ((first|refine qA rfl ?_|apply qB|refine qC rfl ?_|apply qD|apply qE|apply qF|apply qG|apply qH);try simp (disch:=(first|omega|(simp only [qI,qJ,qK]<;>omega)|exact qL _)) only [go_sem,↓reduceIte,n0,reduceCtorEq,n1,n2,n3,n4,n5,i0,i1,i2,i3,i4,i5,i6,i7,↓step_invoke])
 refine (AppendInt32_fn _ _ w4 ho4 hz4 number (by simp only [List.length_append,fixedS_len,hlen0];omega)).mono ?_
 rintro r5 w5 h5
 have hU5':Upd (fun b=>w.heap.size≤b) w4 w5:=h5.upd.mono fun b h=>Own.above ho4 h
 have hE5:Ext w w5:=hE4.more hU5' fun b hb h=>by omega
 have hG5:=hR.keep _ _ hG4 (hU5'.mono fun b h=>by omega)
 have ho5:=h5.own
 have hz5:=hE5.size
 obtain ⟨a5,c5,rfl,_⟩:=Own.shape ho5
 try simp (disch:=(first|omega|(simp only [qI,qJ,qK]<;>omega)|exact qL _)) only [go_sem,↓reduceIte,n0,reduceCtorEq,n1,n2,n3,n4,n5,i0,i1,i2,i3,i4,i5,i6,i7]
 have hf5:=hE5.blk_some hf id
 have hp5:=hp.keep (hE5.keeps _)
 repeat refine W.seq ?_
 refine W.normJ (EndQ [(0,.pointer (some ⟨fp,0,none⟩)),(1,.slice a5 ((([0,0,0,0]:List UInt8)++fixedS key 2)++fixedS ver 2++fixedS number 4).length c5),(2,.iface T mp),(33,.bool false)] (fun w'=>w'=w5)) ?_ ?_
 ·refine W.regR rfl ?_
  by_cases hk7:key=7
  ·have hv0:¬ ver=0:=fun h=>hkv ⟨hk7,h⟩
   simp (disch:=(first|omega|(simp only [qI,qJ,qK]<;>omega)|exact qL _)) only [go_sem,↓reduceIte,n0,reduceCtorEq,n1,n2,n3,n4,n5,i0,i1,i2,i3,i4,i5,i6,i7,hk7,hv0]
   exact ⟨(by simp (disch:=(first|omega|(simp only [qI,qJ,qK]<;>omega)|exact qL _)) only [go_sem,↓reduceIte,n0,reduceCtorEq,n1,n2,n3,n4,n5,i0,i1,i2,i3,i4,i5,i6,i7,Holds_nil,Holds_cons]),rfl⟩
  ·simp (disch:=(first|omega|(simp only [qI,qJ,qK]<;>omega)|exact qL _)) only [go_sem,↓reduceIte,n0,reduceCtorEq,n1,n2,n3,n4,n5,i0,i1,i2,i3,i4,i5,i6,i7,hk7]
   exact ⟨(by simp (disch:=(first|omega|(simp only [qI,qJ,qK]<;>omega)|exact qL _)) only [go_sem,↓reduceIte,n0,reduceCtorEq,n1,n2,n3,n4,n5,i0,i1,i2,i3,i4,i5,i6,i7,Holds_nil,Holds_cons]),rfl⟩
 rintro ρ wq ⟨⟨h0,h1,h2',h33,-⟩,hwq⟩
 obtain rfl:=hwq.symm
 try simp (disch:=(first|omega|(simp only [qI,qJ,qK]<;>omega)|exact qL _)) only [go_sem,↓reduceIte,n0,reduceCtorEq,n1,n2,n3,n4,n5,i0,i1,i2,i3,i4,i5,i6,i7]
 repeat ((first|refine qA rfl ?_|apply qB|refine qC rfl ?_|apply qD|apply qE|apply qF|apply qG|apply qH);try simp (disch:=(first|omega|(simp only [qI,qJ,qK]<;>omega)|exact qL _)) only [go_sem,↓reduceIte,n0,reduceCtorEq,n1,n2,n3,n4,n5,i0,i1,i2,i3,i4,i5,i6,i7,h0,h1,h2',h33,hf5,↓step_invoke])
 refine (AppendNullableString_fn (ok:=ok) _ _ w5 ho5 hz5 cid null x hp5 hx (by simp only [List.length_append,fixedS_len,hlen0];omega)).mono ?_
 rintro r6 w6 h6
 have hU6':Upd (fun b=>w.heap.size≤b) w5 w6:=h6.upd.mono fun b h=>Own.above ho5 h
 have hE6:Ext w w6:=hE5.more hU6' fun b hb h=>by omega
 have hG6:=hR.keep _ _ hG5 (hU6'.mono fun b h=>by omega)
 have ho6:=h6.own
 have hz6:=hE6.size
 obtain ⟨a6,c6,rfl,_⟩:=Own.shape ho6
 try simp (disch:=(first|omega|(simp only [qI,qJ,qK]<;>omega)|exact qL _)) only [go_sem,↓reduceIte,n0,reduceCtorEq,n1,n2,n3,n4,n5,i0,i1,i2,i3,i4,i5,i6,i7]
 repeat ((first|refine qA rfl ?_|apply qB|refine qC rfl ?_|apply qD|apply qE|apply qF|apply qG|apply qH);try simp (disch:=(first|omega|(simp only [qI,qJ,qK]<;>omega)|exact qL _)) only [go_sem,↓reduceIte,n0,reduceCtorEq,n1,n2,n3,n4,n5,i0,i1,i2,i3,i4,i5,i6,i7,h2',↓step_invoke])
 refine wp_invoke (by first|rfl|simp (disch:=(first|omega|(simp only [qI,qJ,qK]<;>omega)|exact qL _)) only [go_sem,↓reduceIte,n0,reduceCtorEq,n1,n2,n3,n4,n5,i0,i1,i2,i3,i4,i5,i6,i7]) mF hR.recv cF ?_
 try simp (disch:=(first|omega|(simp only [qI,qJ,qK]<;>omega)|exact qL _)) only [go_sem,↓reduceIte,n0,reduceCtorEq,n1,n2,n3,n4,n5,i0,i1,i2,i3,i4,i5,i6,i7]
 refine (hF w6 hG6).mono ?_
 rintro _ wq ⟨rfl,hwq⟩
 obtain rfl:=hwq.symm
 try simp (disch:=(first|omega|(simp only [qI,qJ,qK]<;>omega)|exact qL _)) only [go_sem,↓reduceIte,n0,reduceCtorEq,n1,n2,n3,n4,n5,i0,i1,i2,i3,i4,i5,i6,i7]
 have hl6:(([0,0,0,0]:List UInt8)++fixedS key 2++fixedS ver 2++fixedS number 4++(if null=true then fixedS (-1) 2 else fixedS x.length 2++x)).length≤32781:=by
  simp only [List.length_append,fixedS_len,hlen0]
  split<;>simp only [List.length_append,fixedS_len]<;>omega
 generalize hs6:(([0,0,0,0]:List UInt8)++fixedS key 2++fixedS ver 2++fixedS number 4++(if null=true then fixedS (-1) 2 else fixedS x.length 2++x))=s6 at *
 repeat refine W.seq ?_
 refine W.normJ (RowQ [(2,.iface T mp)] 1 (fun v w'=>OwnBy 5 w.heap.size w' v (s6++if flex=true then [0] else [])∧Ext w w')) ?_ ?_
 ·skip
  cases flex with
  | false =>
   repeat ((first|refine qA rfl ?_|apply qB|refine qC rfl ?_|apply qD|apply qE|apply qF|apply qG|apply qH);try simp (disch:=(first|omega|(simp only [qI,qJ,qK]<;>omega)|exact qL _)) only [go_sem,↓reduceIte,n0,reduceCtorEq,n1,n2,n3,n4,n5,i0,i1,i2,i3,i4,i5,i6,i7])
   have ho6':OwnBy 5 w.heap.size w6 (.slice a6 s6.length c6) (s6++if false=true then [0] else []):=by simpa using ho6
   exact ⟨(by simp (disch:=(first|omega|(simp only [qI,qJ,qK]<;>omega)|exact qL _)) only [go_sem,↓reduceIte,n0,reduceCtorEq,n1,n2,n3,n4,n5,i0,i1,i2,i3,i4,i5,i6,i7,Holds_nil,Holds_cons,h2']),_,(by simp (disch:=(first|omega|(simp only [qI,qJ,qK]<;>omega)|exact qL _)) only [go_sem,↓reduceIte,n0,reduceCtorEq,n1,n2,n3,n4,n5,i0,i1,i2,i3,i4,i5,i6,i7]),ho6',hE6⟩
  | true =>
   repeat ((first|refine qA rfl ?_|apply qB|refine qC rfl ?_|apply qD|apply qE|apply qF|apply qG|apply qH);try simp (disch:=(first|omega|(simp only [qI,qJ,qK]<;>omega)|exact qL _)) only [go_sem,↓reduceIte,n0,reduceCtorEq,n1,n2,n3,n4,n5,i0,i1,i2,i3,i4,i5,i6,i7])
   try simp only [List.cons_append,List.nil_append,List.append_nil]
   have hE7:Ext w6 (w6.alloc (.cells #[.int .u8 0] 5)):=Upd.alloc (Upd.refl _ _) _
   have hs7:Src (w6.alloc (.cells #[.int .u8 0] 5)) 1 (.slice (some ⟨w6.heap.size,0,none⟩) 1 1) 1 (([0]:List UInt8).map byteV):=Src.blk (fr:=(0,0)) (T:=5) (blk_alloc_new rfl) rfl rfl
   have ho7:=ho6.alloc (.cells #[.int .u8 0] 5)
   generalize (w6.alloc (.cells #[.int .u8 0] 5))=w7 at *
   have hz7:=(hE6.trans hE7).size
   refine wp_append ap_24_24 (B:=w.heap.size) (n:=s6.length) (cs:=s6.map byteV) (m:=1) (news:=([0]:List UInt8).map byteV) (v:=.slice a6 s6.length c6) (u:=.slice (some ⟨w6.heap.size,0,none⟩) 1 1) (by first|rfl|simp (disch:=(first|omega|(simp only [qI,qJ,qK]<;>omega)|exact qL _)) only [go_sem,↓reduceIte,n0,reduceCtorEq,n1,n2,n3,n4,n5,i0,i1,i2,i3,i4,i5,i6,i7]) (by first|rfl|simp (disch:=(first|omega|(simp only [qI,qJ,qK]<;>omega)|exact qL _)) only [go_sem,↓reduceIte,n0,reduceCtorEq,n1,n2,n3,n4,n5,i0,i1,i2,i3,i4,i5,i6,i7]) ho7 (flat_bytes _) hs7 hz7 (by omega) ?_
   intro v8 w8 h8 hU8 hf8
   repeat (first|simp (disch:=(first|omega|(simp only [qI,qJ,qK]<;>omega)|exact qL _)) only [go_sem,↓reduceIte,n0,reduceCtorEq,n1,n2,n3,n4,n5,i0,i1,i2,i3,i4,i5,i6,i7]|refine qA rfl ?_|apply qB|refine qC rfl ?_|apply qD|apply qE|apply qF|apply qG|apply qH)
   exact ⟨(by simp (disch:=(first|omega|(simp only [qI,qJ,qK]<;>omega)|exact qL _)) only [go_sem,↓reduceIte,n0,reduceCtorEq,n1,n2,n3,n4,n5,i0,i1,i2,i3,i4,i5,i6,i7,Holds_nil,Holds_cons,h2']),_,(by simp (disch:=(first|omega|(simp only [qI,qJ,qK]<;>omega)|exact qL _)) only [go_sem,↓reduceIte,n0,reduceCtorEq,n1,n2,n3,n4,n5,i0,i1,i2,i3,i4,i5,i6,i7]),OwnBy.app (s:=s6) (t:=[0]) h8 (by simp),(hE6.trans hE7).more hU8 fun b hb h=>by have:=Own.above ho6 h;omega⟩
 rintro ρ w9 ⟨⟨h2'',-⟩,v9,h1',ho9,hE9⟩
 try simp (disch:=(first|omega|(simp only [qI,qJ,qK]<;>omega)|exact qL _)) only [go_sem,↓reduceIte,n0,reduceCtorEq,n1,n2,n3,n4,n5,i0,i1,i2,i3,i4,i5,i6,i7]
 have hl9:(s6++if flex=true then [0] else []).length≤32782:=by rw [List.length_append];split<;>simp only [List.length_cons,List.length_nil]<;>omega
 have hG9:Gd w9:=hR.keep _ _ hG (hE9.mono fun _ h=>h.elim)
 have hz9:=hE9.size
 repeat ((first|refine qA rfl ?_|apply qB|refine qC rfl ?_|apply qD|apply qE|apply qF|apply qG|apply qH);try simp (disch:=(first|omega|(simp only [qI,qJ,qK]<;>omega)|exact qL _)) only [go_sem,↓reduceIte,n0,reduceCtorEq,n1,n2,n3,n4,n5,i0,i1,i2,i3,i4,i5,i6,i7,h1',h2'',↓step_invoke])
 refine wp_invoke (by first|rfl|simp (disch:=(first|omega|(simp only [qI,qJ,qK]<;>omega)|exact qL _)) only [go_sem,↓reduceIte,n0,reduceCtorEq,n1,n2,n3,n4,n5,i0,i1,i2,i3,i4,i5,i6,i7]) mA hR.recv cA ?_
 try simp (disch:=(first|omega|(simp only [qI,qJ,qK]<;>omega)|exact qL _)) only [go_sem,↓reduceIte,n0,reduceCtorEq,n1,n2,n3,n4,n5,i0,i1,i2,i3,i4,i5,i6,i7]
 refine (hA w9 v9 _ w.heap.size hG9 hB hz9 ho9 (by omega)).mono ?_
 rintro rA wA hA9
 have hUA:Upd (fun b=>w.heap.size≤b) w9 wA:=hA9.upd.mono fun b h=>Own.above ho9 h
 have hEA:Ext w wA:=hE9.more hUA fun b hb h=>by omega
 have hoA:=hA9.own
 have hsA:(s6++if flex=true then [0] else [])++body=[0,0,0,0]++frameB key ver number null x flex body:=by rw [← hs6];simp only [frameB,List.append_assoc]
 rw [hsA] at hoA
 generalize hfb:frameB key ver number null x flex body=fb at *
 have hfl:fb.length≤2 ^ 41:=by rw [← hfb];have:=frameB_len key ver number null x flex body hx;omega
 obtain ⟨gA,cA',restA,frA,hrA,hgA,hbA,hcA,hthA,hleA⟩:∃ g cap rest fr,rA = .slice (some ⟨g,0,none⟩) ([0,0,0,0]++fb:List UInt8).length cap∧w.heap.size≤g∧blk wA g=some ((([0,0,0,0]++fb:List UInt8).map byteV++rest).toArray,5,fr)∧(([0,0,0,0]++fb:List UInt8).map byteV).length+rest.length=cap * 1∧thaw fr 0 (cap * 1)=true∧([0,0,0,0]++fb:List UInt8).length≤cap:=by
  rcases hoA.2 with ⟨_,h⟩|h
  ·simp at h
  ·exact h
 subst hrA
 have hL:([0,0,0,0]++fb:List UInt8).length=4+fb.length:=by simp only [List.length_append,hlen0]
 repeat (first|simp (disch:=(first|omega|(simp only [qI,qJ,qK]<;>omega)|exact qL _)) only [go_sem,↓reduceIte,n0,reduceCtorEq,n1,n2,n3,n4,n5,i0,i1,i2,i3,i4,i5,i6,i7]|refine qA rfl ?_|apply qB|refine qC rfl ?_|apply qD|apply qE|apply qF|apply qG|apply qH)
 refine W.drawR (.take 0 (.take 1 (.take 2 (.take 3 (.take 4 (.take 5 (.only 6 .done))))))) (fun b=>b=gA) mixed (by kernel_rfl) ?_
 have hEd:Ext wA wA.drew:=(Upd.refl _ _).drew
 have hbd:blk wA.drew gA=_:=hbA
 have hod:OwnBy 5 w.heap.size wA.drew _ ([0,0,0,0]++fb):=Own.upd hoA hEd (fun _ _ h=>h)
 simp (disch:=(first|omega|(simp only [qI,qJ,qK]<;>omega)|exact qL _)) only [go_sem,↓reduceIte,n0,reduceCtorEq,n1,n2,n3,n4,n5,i0,i1,i2,i3,i4,i5,i6,i7,hL]
 generalize wA.drew=wD at *
 have hsb:slBase (some ⟨gA,0,none⟩) 0 cA' 1=some ⟨gA,0,none⟩:=by unfold slBase;split<;>rfl
 rw [hsb,Nat.sub_zero,show 4+fb.length - 4=fb.length by omega]
 refine (AppendInt32In_fn (cap:=cA') (xb:=((([0,0,0,0]++fb:List UInt8).map byteV++restA).toArray,5,frA)) wD hbd (by omega) (by first|(simp;done)|(simp;omega)) (show frA.2≤0∨4≤frA.1 by simp only [thaw,Bool.or_eq_true,Nat.ble_eq] at hthA;omega) (IntKind.i32.wrap (fb.length:Int))).mono ?_
 rintro rE wE ⟨hUE,hbE⟩
 refine ⟨?_,?_⟩
 ·exact hUE.mono fun b h=>h
 repeat (first|simp (disch:=(first|omega|(simp only [qI,qJ,qK]<;>omega)|exact qL _)) only [go_sem,↓reduceIte,n0,reduceCtorEq,n1,n2,n3,n4,n5,i0,i1,i2,i3,i4,i5,i6,i7]|refine qA rfl ?_|apply qB|refine qC rfl ?_|apply qD|apply qE|apply qF|apply qG|apply qH)
 have hwr:fixedS (IntKind.i32.wrap (fb.length:Int)) 4=fixedS (fb.length:Int) 4:=fixedS_wrap 3 (by simp [numK]) _
 rw [hwr] at hbE
 have hoE:=OwnBy.front (w':=wE) (a:=fixedS (fb.length:Int) 4) hod (by rw [fixedS_len,hL];omega) hbE
 have hsE:fixedS (fb.length:Int) 4++([0,0,0,0]++fb:List UInt8).drop (fixedS (fb.length:Int) 4).length=frameS key ver number null x flex body:=by
  rw [fixedS_len,frameS,hfb];rfl
 rw [hsE,hL] at hoE
 exact ⟨hoE,(hEA.trans hEd).more hUE fun b hb h=>by omega⟩

theorem framed_fn {T:TypeId} {mp:Value} {B:Nat} {key ver:Int} {flex:Bool} {body:List UInt8} {Gd:World→Prop} (hR:ReqOk Tryz.prog 5 T mp B key ver flex body Gd) (hmp:flat mp=true) (w:World) (hG:Gd w) (hB:B≤w.heap.size) (has:Bool) (id:List UInt8) (hx:id.length≤32767) (hbl:body.length≤2 ^ 40) (number:Int) (hkv:¬ (key=7∧ver=0)) :
  Fn Tryz.prog 21 #[.agg #[.bool has,strV id],.iface T mp,.int .i32 number] w fun r w'=>OwnBy 5 w.heap.size w' r (frameS key ver number (!has) id flex body)∧Ext w w':=by
 refine fn_of_W Tryz.func21 rfl Tryz.results21 Tryz.ntmps21 rfl ?_
 repeat ((first|refine qA rfl ?_|apply qB|refine qC rfl ?_|apply qD|apply qE|apply qF|apply qG|apply qH);try simp (disch:=(first|omega|(simp only [qI,qJ,qK]<;>omega)|exact qL _)) only [go_sem,↓reduceIte,n0,reduceCtorEq,n1,n2,n3,n4,n5,i0,i1,i2,i3,i4,i5,i6,i7,cells_strV,flat_strV])
 have hE1:Ext w (w.alloc (.cells #[.bool has,strV id] 23)):=Upd.alloc (Upd.refl _ _) _
 have hb1:blk (w.alloc (.cells #[.bool has,strV id] 23)) w.heap.size=some (#[.bool has,strV id],23,(0,0)):=blk_alloc_new rfl
 generalize w.alloc (.cells #[.bool has,strV id] 23)=w1 at *
 refine (NewReq0_fn w1).mono ?_
 rintro _ w2 ⟨rfl,hb2,hE2⟩
 have hE02:=hE1.trans hE2
 have hb12:=hE2.blk_some hb1 _root_.id
 have hz1:=hE1.size
 cases has with
 | false =>
  simp (disch:=(first|omega|(simp only [qI,qJ,qK]<;>omega)|exact qL _)) only [go_sem,↓reduceIte,n0,reduceCtorEq,n1,n2,n3,n4,n5,i0,i1,i2,i3,i4,i5,i6,i7]
  repeat ((first|refine qA rfl ?_|apply qB|refine qC rfl ?_|apply qD|apply qE|apply qF|apply qG|apply qH);try simp (disch:=(first|omega|(simp only [qI,qJ,qK]<;>omega)|exact qL _)) only [go_sem,↓reduceIte,n0,reduceCtorEq,n1,n2,n3,n4,n5,i0,i1,i2,i3,i4,i5,i6,i7,hb12])
  refine (AppendRequest_fn hR hmp w2 (hR.keep _ _ hG (hE02.mono fun _ h=>h.elim)) (by have:=hE02.size;omega) (ok:=AnyB) hb2 true id rfl hx hbl number hkv).mono ?_
  rintro r w3 ⟨ho3,hE3⟩
  repeat ((first|refine qA rfl ?_|apply qB|refine qC rfl ?_|apply qD|apply qE|apply qF|apply qG|apply qH);try simp (disch:=(first|omega|(simp only [qI,qJ,qK]<;>omega)|exact qL _)) only [go_sem,↓reduceIte,n0,reduceCtorEq,n1,n2,n3,n4,n5,i0,i1,i2,i3,i4,i5,i6,i7])
  exact ⟨Own.mono ho3 hE02.size,hE02.trans hE3⟩
 | true =>
  simp (disch:=(first|omega|(simp only [qI,qJ,qK]<;>omega)|exact qL _)) only [go_sem,↓reduceIte,n0,reduceCtorEq,n1,n2,n3,n4,n5,i0,i1,i2,i3,i4,i5,i6,i7]
  repeat ((first|refine qA rfl ?_|apply qB|refine qC rfl ?_|apply qD|apply qE|apply qF|apply qG|apply qH);try simp (disch:=(first|omega|(simp only [qI,qJ,qK]<;>omega)|exact qL _)) only [go_sem,↓reduceIte,n0,reduceCtorEq,n1,n2,n3,n4,n5,i0,i1,i2,i3,i4,i5,i6,i7,hb12])
  refine (ClientID_fn id w2).mono ?_
  rintro _ w3 ⟨rfl,hb3,hE3⟩
  simp (disch:=(first|omega|(simp only [qI,qJ,qK]<;>omega)|exact qL _)) only [go_sem,↓reduceIte,n0,reduceCtorEq,n1,n2,n3,n4,n5,i0,i1,i2,i3,i4,i5,i6,i7]
  try simp only [List.cons_append,List.nil_append,List.append_nil]
  have hE4:Ext w3 (w3.alloc (.cells #[.iface 112 (.agg #[.func (.func 58) #[] #[.pointer (some ⟨w2.heap.size,0,none⟩)]])] 83)):=Upd.alloc (Upd.refl _ _) _
  have hb4:blk (w3.alloc (.cells #[.iface 112 (.agg #[.func (.func 58) #[] #[.pointer (some ⟨w2.heap.size,0,none⟩)]])] 83)) w3.heap.size=some (#[.iface 112 (.agg #[.func (.func 58) #[] #[.pointer (some ⟨w2.heap.size,0,none⟩)]])],83,(0,0)):=blk_alloc_new rfl
  generalize w3.alloc (.cells #[.iface 112 (.agg #[.func (.func 58) #[] #[.pointer (some ⟨w2.heap.size,0,none⟩)]])] 83)=w4 at *
  refine (NewReq1_fn w4 hb4).mono ?_
  rintro _ w5 ⟨rfl,hb5,hE5⟩
  have hE45:=hE4.trans hE5
  have hE05:=(hE02.trans hE3).trans hE45
  repeat (first|simp (disch:=(first|omega|(simp only [qI,qJ,qK]<;>omega)|exact qL _)) only [go_sem,↓reduceIte,n0,reduceCtorEq,n1,n2,n3,n4,n5,i0,i1,i2,i3,i4,i5,i6,i7]|refine qA rfl ?_|apply qB|refine qC rfl ?_|apply qD|apply qE|apply qF|apply qG|apply qH)
  refine (AppendRequest_fn hR hmp w5 (hR.keep _ _ hG (hE05.mono fun _ h=>h.elim)) (by have:=hE05.size;omega) (ok:=AnyB) hb5 false id ⟨_,_,_,rfl,trivial,hE45.blk_some hb3 _root_.id,rfl⟩ hx hbl number hkv).mono ?_
  rintro r w6 ⟨ho6,hE6⟩
  repeat ((first|refine qA rfl ?_|apply qB|refine qC rfl ?_|apply qD|apply qE|apply qF|apply qG|apply qH);try simp (disch:=(first|omega|(simp only [qI,qJ,qK]<;>omega)|exact qL _)) only [go_sem,↓reduceIte,n0,reduceCtorEq,n1,n2,n3,n4,n5,i0,i1,i2,i3,i4,i5,i6,i7])
  exact ⟨Own.mono ho6 hE05.size,hE05.trans hE6⟩

end Ms

namespace Ms
open Go.World renaming size_alloc → qI
open Ms renaming size_wr → qJ,size_drew → qK,not_noB → qL
open W renaming seqR → qA,seq → qB,regR → qC,condK → qD,block → qE,skip → qF,ret → qG,exit → qH
open Nat renaming reduceEqDiff → n0,reduceAdd → n1,reduceMul → n2,reduceSub → n3,reduceLT → n4,reduceLeDiff → n5
open Int renaming reduceEq → i0,reduceLT → i1,reduceLE → i2,reduceNeg → i3,reduceAdd → i4,reduceSub → i5,reduceMul → i6,reduceToNat → i7
set_option maxRecDepth 4000
open Go Go.Proofs
attribute [local congr] W_congr WPsq_congr WPp_congr optK_congr addrK_congr intK_congr boolK_congr sliceK_congr tupleK_congr funcK_congr Fn_congr rawK_congr takeK_congr stepK_congr convK_congr aggK_congr

theorem AppendNullableArrayLen_fn {B:Nat} (v:Value) (s:List UInt8) (w:World) (ho:OwnBy 5 B w v s) (hB:B≤w.heap.size) (n:Nat) (hn:n≤32767) (null:Bool) (hl:s.length≤2 ^ 44) :
  Fn Tryz.prog 95 #[v,.int .i64 n,.bool null] w fun r w'=>AppR 5 B w v s (countedS false null n 4) r w':=by
 obtain ⟨a,c,rfl,hc⟩:=ho.len
 refine fn_of_W Tryz.func95 rfl Tryz.results95 Tryz.ntmps95 rfl ?_
 have ew:IntKind.i32.wrap (n:Int)=n:=i32_wrap (by omega)
 cases null with
 | true =>
  rw [counted_none]
  repeat ((first|refine qA rfl ?_|apply qB|refine qC rfl ?_|apply qD|apply qE|apply qF|apply qG|apply qH);try simp (disch:=(first|omega|(simp only [qI,qJ,qK]<;>omega)|exact qL _)) only [go_sem,↓reduceIte,n0,reduceCtorEq,n1,n2,n3,n4,n5,i0,i1,i2,i3,i4,i5,i6,i7,ew])
  refine (AppendInt32_fn _ s w ho hB _ (by omega)).mono ?_
  rintro r w1 h1
  repeat ((first|refine qA rfl ?_|apply qB|refine qC rfl ?_|apply qD|apply qE|apply qF|apply qG|apply qH);try simp (disch:=(first|omega|(simp only [qI,qJ,qK]<;>omega)|exact qL _)) only [go_sem,↓reduceIte,n0,reduceCtorEq,n1,n2,n3,n4,n5,i0,i1,i2,i3,i4,i5,i6,i7])
  exact h1
 | false =>
  rw [counted_some]
  repeat ((first|refine qA rfl ?_|apply qB|refine qC rfl ?_|apply qD|apply qE|apply qF|apply qG|apply qH);try simp (disch:=(first|omega|(simp only [qI,qJ,qK]<;>omega)|exact qL _)) only [go_sem,↓reduceIte,n0,reduceCtorEq,n1,n2,n3,n4,n5,i0,i1,i2,i3,i4,i5,i6,i7,ew])
  refine (AppendInt32_fn _ s w ho hB _ (by omega)).mono ?_
  rintro r w1 h1
  repeat ((first|refine qA rfl ?_|apply qB|refine qC rfl ?_|apply qD|apply qE|apply qF|apply qG|apply qH);try simp (disch:=(first|omega|(simp only [qI,qJ,qK]<;>omega)|exact qL _)) only [go_sem,↓reduceIte,n0,reduceCtorEq,n1,n2,n3,n4,n5,i0,i1,i2,i3,i4,i5,i6,i7])
  exact h1

theorem AppendCompactNullableArrayLen_fn {B:Nat} (v:Value) (s:List UInt8) (w:World) (ho:OwnBy 5 B w v s) (hB:B≤w.heap.size) (n:Nat) (hn:n≤32767) (null:Bool) (hl:s.length≤2 ^ 44) :
  Fn Tryz.prog 94 #[v,.int .i64 n,.bool null] w fun r w'=>AppR 5 B w v s (countedS true null n 4) r w':=by
 obtain ⟨a,c,rfl,hc⟩:=ho.len
 refine fn_of_W Tryz.func94 rfl Tryz.results94 Tryz.ntmps94 rfl ?_
 have ew:IntKind.u32.wrap (n:Int)=n:=u32_wrap (by omega)
 have ew2:IntKind.u32.wrap (1+(n:Int))=((n+1:Nat):Int):=by rw [u32_wrap (by omega)];omega
 cases null with
 | true =>
  rw [counted_none,if_pos rfl,← show uvarS 0=[0] from by rw [uvarS_1 (by omega)];rfl]
  repeat ((first|refine qA rfl ?_|apply qB|refine qC rfl ?_|apply qD|apply qE|apply qF|apply qG|apply qH);try simp (disch:=(first|omega|(simp only [qI,qJ,qK]<;>omega)|exact qL _)) only [go_sem,↓reduceIte,n0,reduceCtorEq,n1,n2,n3,n4,n5,i0,i1,i2,i3,i4,i5,i6,i7,ew,ew2])
  refine (AppendUvarint_fn _ s w ho hB 0 (by omega) (by omega)).mono ?_
  rintro r w1 h1
  repeat ((first|refine qA rfl ?_|apply qB|refine qC rfl ?_|apply qD|apply qE|apply qF|apply qG|apply qH);try simp (disch:=(first|omega|(simp only [qI,qJ,qK]<;>omega)|exact qL _)) only [go_sem,↓reduceIte,n0,reduceCtorEq,n1,n2,n3,n4,n5,i0,i1,i2,i3,i4,i5,i6,i7])
  exact h1
 | false =>
  rw [counted_some,if_pos rfl]
  repeat ((first|refine qA rfl ?_|apply qB|refine qC rfl ?_|apply qD|apply qE|apply qF|apply qG|apply qH);try simp (disch:=(first|omega|(simp only [qI,qJ,qK]<;>omega)|exact qL _)) only [go_sem,↓reduceIte,n0,reduceCtorEq,n1,n2,n3,n4,n5,i0,i1,i2,i3,i4,i5,i6,i7,ew,ew2])
  refine (AppendUvarint_fn _ s w ho hB (n+1) (by omega) (by omega)).mono ?_
  rintro r w1 h1
  repeat ((first|refine qA rfl ?_|apply qB|refine qC rfl ?_|apply qD|apply qE|apply qF|apply qG|apply qH);try simp (disch:=(first|omega|(simp only [qI,qJ,qK]<;>omega)|exact qL _)) only [go_sem,↓reduceIte,n0,reduceCtorEq,n1,n2,n3,n4,n5,i0,i1,i2,i3,i4,i5,i6,i7])
  exact h1

end Ms

