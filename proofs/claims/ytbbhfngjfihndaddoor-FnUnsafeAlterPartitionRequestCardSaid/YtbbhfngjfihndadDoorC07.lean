/- A part of the proof: see the last text. -/
import Derived.Test.YtbbhfngjfihndadDoorC02
import Derived.Test.YtbbhfngjfihndadDoorC03
import Derived.Test.YtbbhfngjfihndadDoorC06
set_option linter.unusedSimpArgs false
set_option linter.unusedVariables false
namespace Ms
open Go

def Shr {α:Type} (r:St→α × St):Prop:=∀ st,stLen (r st).2≤stLen st
theorem stLen_some (s:List UInt8):stLen (some s)=s.length:=rfl
theorem rdN_shr (n:Nat):Shr (rdN n):=fun st=>by
 cases st with
 | none=>exact Nat.le_refl _
 | some s =>
  unfold rdN;simp only
  split
  ·simp [stLen]
  ·simp [stLen]
theorem rdInt_shr (k:IntKind) (n:Nat):Shr (rdInt k n):=rdN_shr n
theorem rdUv_shr : Shr rdUv:=fun st=>by
 cases st with
 | none=>exact Nat.le_refl _
 | some s =>
  unfold rdUv;simp only
  split
  ·rename_i x hx
   have:=(uvD_some hx).1
   simp only [stLen_some];omega
  ·simp [stLen]
theorem rdUv_less {s:List UInt8} (h:(rdUv (some s)).2≠none):stLen (rdUv (some s)).2+1≤s.length:=by
 unfold rdUv at h ⊢;simp only at h ⊢
 split
 ·rename_i x hx
  have:=(uvD_some hx).1
  simp only [stLen_some];omega
 ·rename_i hx;rw [hx] at h;simp at h
theorem rdUv_fail {s:List UInt8} (h:(rdUv (some s)).2=none):(rdUv (some s)).1=0:=by
 unfold rdUv at h ⊢;simp only at h ⊢
 split
 ·rename_i x hx;rw [hx] at h;simp at h
 ·rfl
theorem rdSpan_shr (l:Int):Shr (rdSpan l):=fun st=>by
 cases st with
 | none=>exact Nat.le_refl _
 | some s =>
  unfold rdSpan;simp only
  split
  ·simp [stLen]
  ·simp [stLen]
theorem rdSpan_len (l:Int) (st:St):(rdSpan l st).1.length≤stLen st:=by
 cases st with
 | none=>simp [rdSpan]
 | some s =>
  unfold rdSpan;simp only
  split
  ·simp [stLen];omega
  ·simp
theorem rdLen_shr (flex:Bool) (k:IntKind) (n:Nat):Shr (rdLen flex k n):=fun st=>by
 unfold rdLen;split
 ·exact rdUv_shr st
 ·exact rdInt_shr k n st
theorem rdStr_shr (flex:Bool):Shr (rdStr flex):=fun st=>Nat.le_trans (rdSpan_shr _ _) (rdLen_shr flex _ _ st)
theorem rdStr_len (flex:Bool) (st:St):(rdStr flex st).1.length≤stLen st:=Nat.le_trans (rdSpan_len _ _) (rdLen_shr flex _ _ st)
theorem rdOct_shr (flex:Bool):Shr (rdOct flex):=fun st=>Nat.le_trans (rdSpan_shr _ _) (rdLen_shr flex _ _ st)
theorem rdOct_len (flex:Bool) (st:St):(rdOct flex st).1.length≤stLen st:=Nat.le_trans (rdSpan_len _ _) (rdLen_shr flex _ _ st)
theorem rdNStr_shr (flex:Bool):Shr (rdNStr flex):=fun st=>by
 unfold rdNStr;split
 ·exact rdLen_shr flex _ _ st
 ·exact rdStr_shr flex st
theorem rdNStr_len (flex:Bool) (st:St):(rdNStr flex st).1.2.length≤stLen st:=by
 unfold rdNStr;split
 ·simp
 ·exact rdStr_len flex st
theorem rdBytes_shr (flex:Bool):Shr (rdBytes flex):=fun st=>by
 unfold rdBytes;split
 ·exact rdLen_shr flex _ _ st
 ·exact rdOct_shr flex st
theorem rdBytes_len (flex:Bool) (st:St):(rdBytes flex st).1.2.length≤stLen st:=by
 unfold rdBytes;split
 ·simp
 ·exact rdOct_len flex st
theorem rdNBytes_shr (flex:Bool):Shr (rdNBytes flex):=fun st=>by
 unfold rdNBytes;split
 ·exact rdLen_shr flex _ _ st
 ·exact rdOct_shr flex st
theorem rdNBytes_len (flex:Bool) (st:St):(rdNBytes flex st).1.2.length≤stLen st:=by
 unfold rdNBytes;split
 ·simp
 ·exact rdOct_len flex st
theorem rdCnt_shr (flex:Bool):Shr (rdCnt flex):=fun st=>by
 unfold rdCnt;split
 ·exact rdUv_shr st
 ·exact rdInt_shr _ _ st
theorem rdALen_shr (flex:Bool):Shr (rdALen flex):=fun st=>by
 unfold rdALen;split
 ·simp [stLen]
 ·exact rdCnt_shr flex st
theorem rdALen_len (flex:Bool) (st:St):(rdALen flex st).1.toNat≤stLen st:=by
 have:=rdCnt_shr flex st
 unfold rdALen;split
 ·simp
 ·omega
theorem rdTag_shr (u:List TagD):Shr (rdTag u):=fun st=>Nat.le_trans (rdSpan_shr _ _) (Nat.le_trans (rdUv_shr _) (rdUv_shr st))
theorem rdTagsN_shr : ∀ (n:Nat) (u:List TagD),Shr (rdTagsN n u)
 | 0,_=>fun st=>Nat.le_refl _
 | n+1,u=>fun st=>Nat.le_trans (rdTagsN_shr n _ _) (rdTag_shr u st)
theorem rdTags_shr : Shr rdTags:=fun st=>Nat.le_trans (rdTagsN_shr _ _ _) (rdUv_shr st)
theorem rdMany_shr {r:St→Tree × St} (h:Shr r):∀ n,Shr (rdMany r n)
 | 0=>fun st=>Nat.le_refl _
 | n+1=>fun st=>Nat.le_trans (rdMany_shr h n _) (h st)
theorem rd1_shr {pt:List Fld→St→Tree × St} (h:∀ sub,Shr (pt sub)) (k:Int) (sub:List Fld) (may flex:Bool):Shr (rd1 pt k sub may flex):=fun st=>by
 unfold rd1
 split
 ·exact rdN_shr _ st
 ·split
  ·exact rdSpan_shr _ st
  ·split
   ·split
    ·exact rdNStr_shr flex st
    ·exact rdStr_shr flex st
   ·split
    ·split
     ·exact rdNBytes_shr flex st
     ·exact rdBytes_shr flex st
    ·split
     ·exact h sub st
     ·exact rdInt_shr (kindK k) (widthS k) st
theorem rdF_shr {pt:List Fld→St→Tree × St} (h:∀ sub,Shr (pt sub)) (v:Int) (flex:Bool) (f:Fld):Shr (rdF pt v flex f):=fun st=>by
 unfold rdF
 split
 ·exact Nat.le_trans (rdMany_shr (rd1_shr h _ _ _ _) _ _) (rdALen_shr flex st)
 ·exact rd1_shr h _ _ _ _ st
theorem rdL_shr {pt:List Fld→St→Tree × St} {dp:List Fld→Tree} (h:∀ sub,Shr (pt sub)) (v:Int) (flex:Bool):∀ fs,Shr (rdL pt dp v flex fs)
 | []=>fun st=>Nat.le_refl _
 | f :: fs=>fun st=>by
  rw [rdL]
  split
  ·exact Nat.le_trans (rdL_shr h v flex fs _) (rdF_shr h v flex f st)
  ·exact rdL_shr h v flex fs st
theorem rdP_shr (v:Int) (flex:Bool):∀ d fs,Shr (rdP d v flex fs)
 | 0,_=>fun st=>Nat.le_refl _
 | d+1,fs=>fun st=>by
  rw [rdP]
  split
  ·exact Nat.le_trans (rdTags_shr _) (rdL_shr (rdP_shr v flex d) v flex fs st)
  ·exact rdL_shr (rdP_shr v flex d) v flex fs st

/-! ### The tags -/
theorem tagPut_len (u:List TagD) (y:TagD):(tagPut u y).length≤u.length+1:=by
 unfold tagPut;split<;>simp
theorem tagPut_has {u:List TagD} {y:TagD} (h:u.any (fun x=>x.1 == y.1)=true):(tagPut u y).length=u.length∧(tagPut u y).any (fun x=>x.1 == y.1)=true:=by
 unfold tagPut
 rw [if_pos h]
 refine ⟨by simp,?_⟩
 rw [List.any_eq_true] at h ⊢
 obtain ⟨x,hx,he⟩:=h
 refine ⟨y,List.mem_map.2 ⟨x,hx,by rw [if_pos (by simpa using he)]⟩,by simp⟩
theorem tagPut_any (u:List TagD) (y:TagD):(tagPut u y).any (fun x=>x.1 == y.1)=true:=by
 by_cases h:u.any (fun x=>x.1 == y.1)=true
 ·exact (tagPut_has h).2
 ·unfold tagPut;rw [if_neg h];simp
theorem rdTagsN_dead : ∀ (n:Nat) (u:List TagD),u.any (fun x=>x.1 == 0)=true→(rdTagsN n u none).1.length=u.length
 | 0,_,_=>rfl
 | n+1,u,h=>by
  have:=tagPut_has (u:=u) (y:=(0,[])) h
  rw [rdTagsN,show rdTag u none=(tagPut u (0,[]),none) from rfl]
  rw [rdTagsN_dead n _ this.2,this.1]
theorem rdTagsN_len : ∀ (n:Nat) (u:List TagD) (st:St),(rdTagsN n u st).1.length≤u.length+stLen st+1
 | 0,u,st=>by simp only [rdTagsN];omega
 | n+1,u,none=>by
  rw [rdTagsN,show rdTag u none=(tagPut u (0,[]),none) from rfl,rdTagsN_dead n _ (tagPut_any u (0,[]))]
  have:=tagPut_len u (0,[])
  omega
 | n+1,u,some s=>by
  rw [rdTagsN]
  by_cases hk:(rdUv (some s)).2=none
  ·have h1:rdTag u (some s)=(tagPut u (0,[]),none):=by
    unfold rdTag;rw [hk,rdUv_fail hk];rfl
   rw [h1,rdTagsN_dead n _ (tagPut_any u (0,[]))]
   have:=tagPut_len u (0,[])
   omega
  ·have ih:=rdTagsN_len n (rdTag u (some s)).1 (rdTag u (some s)).2
   have h2:stLen (rdTag u (some s)).2+1≤s.length:=Nat.le_trans (Nat.succ_le_succ (Nat.le_trans (rdSpan_shr _ _) (rdUv_shr _))) (rdUv_less hk)
   have h3:(rdTag u (some s)).1.length≤u.length+1:=tagPut_len _ _
   rw [stLen_some]
   omega
theorem rdTagsN_good : ∀ (n:Nat) (u:List TagD) (st:St) (M:Nat),stLen st≤M→(u.map (·.1)).Nodup→(∀ y∈u,y.2.length≤M)→((rdTagsN n u st).1.map (·.1)).Nodup∧∀ y∈(rdTagsN n u st).1,y.2.length≤M
 | 0,_,_,_,_,h1,h2=>⟨h1,h2⟩
 | n+1,u,st,M,hM,h1,h2=>by
  rw [rdTagsN]
  refine rdTagsN_good n _ _ M (Nat.le_trans (rdTag_shr u st) hM) (tagPut_keys _ _ h1) fun y hy => ?_
  have hl:(rdSpan (rdUv (rdUv st).2).1 (rdUv (rdUv st).2).2).1.length≤M:=Nat.le_trans (rdSpan_len _ _) (Nat.le_trans (rdUv_shr _) (Nat.le_trans (rdUv_shr _) hM))
  unfold rdTag tagPut at hy
  simp only at hy
  split at hy
  ·obtain ⟨x,hx,rfl⟩:=List.mem_map.1 hy
   split
   ·exact hl
   ·exact h2 x hx
  ·rcases List.mem_append.1 hy with hy|hy
   ·exact h2 y hy
   ·simp only [List.mem_singleton] at hy;subst hy;exact hl
theorem rdTags_good {st:St} (h:stLen st≤32766):GoodU (rdTags st).1:=by
 have h1:=rdUv_shr st
 have h2:=rdTagsN_len (rdUv st).1 [] (rdUv st).2
 have h3:=rdTagsN_good (rdUv st).1 [] (rdUv st).2 32766 (Nat.le_trans h1 h) (by simp) (by simp)
 unfold rdTags
 exact ⟨by simp only [List.length_nil] at h2;omega,h3.1,fun y hy=>Nat.le_trans (h3.2 y hy) (by decide)⟩

/-! ### The parts -/
def okDf : Nat→List Fld→Bool
 | 0,_=>true
 | d+1,fs=>decide (fs.length≤32767) && fs.all fun f=>(!decide (f.kind=4) || decide (IntKind.i64.wrap f.df=f.df)) && (!decide (f.kind=10) && !decide (f.of=10) || okDf d f.sub)
inductive All3 {α β:Type} (R:α→β→Prop):List α→List β→Prop
 | nil:All3 R [] []
 | cons {a:α} {b:β} {l:List α} {m:List β} (h:R a b) (t:All3 R l m):All3 R (a :: l) (b :: m)
theorem goodL_of {G:List Fld→Tree→Prop} {n:Int} {s:List UInt8} {nl:Bool} {u:List TagD}:∀ {fs:List Fld} {l:List Tree} (pre:List Tree),All3 (GoodF G) fs l→GoodL G (.mk n s nl (pre++l) u) fs pre.length
 | _,_,_,.nil=>trivial
 | f :: fs,x :: l,pre,.cons h t=>by
  refine ⟨?_,?_⟩
  ·have:Tree.at (.mk n s nl (pre++x :: l) u) pre.length=x:=by simp [Tree.at,Tree.l]
   rw [this];exact h
  ·have:=goodL_of (G:=G) (n:=n) (s:=s) (nl:=nl) (u:=u) (pre++[x]) t
   simpa using this
theorem good1_num {G:List Fld→Tree→Prop} {k:Int} {sub:List Fld} {n:Int} (h:k=4→IntKind.i64.wrap n=n) (hk:k≠10):Good1 G k sub (.num n):=⟨h,by simp [Tree.num,Tree.s],fun h=>absurd h hk⟩
theorem good1_oct {G:List Fld→Tree→Prop} {k:Int} {sub:List Fld} {b:Bool} {s:List UInt8} (h:s.length≤32767) (hk:k≠10):Good1 G k sub (.oct b s):=⟨fun _=>rfl,h,fun h=>absurd h hk⟩
theorem rd1_good {d:Nat} {pt:List Fld→St→Tree × St} {k:Int} {sub:List Fld} {may flex:Bool} {st:St} (h:stLen st≤32766) (hpt:k=10→GoodP d sub (pt sub st).1) (hs:k=10→(pt sub st).1.s=[]) (hn:k=10→(pt sub st).1.n=0):Good1 (GoodP d) k sub (rd1 pt k sub may flex st).1:=by
 unfold rd1
 by_cases h0:k=0
 ·rw [if_pos h0];exact good1_num (fun h=>by omega) (by omega)
 ·rw [if_neg h0]
  by_cases h7:k=7
  ·rw [if_pos h7];exact good1_oct (by rw [uuidS_len];omega) (by omega)
  ·rw [if_neg h7]
   by_cases h8:k=8
   ·rw [if_pos h8]
    split
    ·exact good1_oct (by have:=rdNStr_len flex st;omega) (by omega)
    ·exact good1_oct (by have:=rdStr_len flex st;omega) (by omega)
   ·rw [if_neg h8]
    by_cases h9:k=9
    ·rw [if_pos h9]
     split
     ·exact good1_oct (by have:=rdNBytes_len flex st;omega) (by omega)
     ·exact good1_oct (by have:=rdBytes_len flex st;omega) (by omega)
    ·rw [if_neg h9]
     by_cases h10:k=10
     ·rw [if_pos h10]
      exact ⟨fun h=>by omega,by rw [hs h10];simp,fun _=>hpt h10⟩
     ·rw [if_neg h10]
      refine good1_num (fun h => ?_) h10
      subst h
      exact wrap_wrap _ _
theorem rdMany_good {R:Tree→Prop} {r:St→Tree × St} (hs:Shr r) (h:∀ st,stLen st≤32766→R (r st).1):∀ (n:Nat) (st:St),stLen st≤32766→(rdMany r n st).1.length=n∧∀ y∈(rdMany r n st).1,R y
 | 0,_,_=>⟨rfl,by simp [rdMany]⟩
 | n+1,st,hst=>by
  have ih:=rdMany_good hs h n (r st).2 (Nat.le_trans (hs st) hst)
  rw [rdMany_succ]
  refine ⟨by simp [ih.1],fun y hy => ?_⟩
  rcases List.mem_cons.1 hy with rfl|hy
  ·exact h st hst
  ·exact ih.2 y hy
theorem rdP_sn (v:Int) (flex:Bool):∀ d fs st,(rdP d v flex fs st).1.s=[]∧(rdP d v flex fs st).1.n=0
 | 0,_,_=>⟨rfl,rfl⟩
 | d+1,fs,st=>by
  rw [rdP]
  split<;>exact ⟨rfl,rfl⟩
theorem dfP_sn : ∀ d fs,(dfP d fs).s=[]∧(dfP d fs).n=0
 | 0,_=>⟨rfl,rfl⟩
 | d+1,fs=>⟨rfl,rfl⟩
theorem Good_setNull {d:Nat} {fs:List Fld} {t:Tree} (h:GoodP d fs t) (b:Bool):GoodP d fs (t.setNull b):=by
 cases t with
 | mk n s nl l u =>
  cases d with
  | zero=>trivial
  | succ d =>
   refine ⟨?_,h.2⟩
   have key:∀ (fs:List Fld) (i:Nat),GoodL (GoodP d) (.mk n s nl l u) fs i→GoodL (GoodP d) (.mk n s b l u) fs i:=by
    intro fs
    induction fs with
    | nil=>intro i _;trivial
    | cons f fs ih=>intro i h;exact ⟨h.1,ih _ h.2⟩
   exact key fs 0 h.1
theorem dfF_good {d:Nat} {dp:List Fld→Tree} {f:Fld} (hdp:f.kind=10→GoodP d f.sub (dp f.sub)∧(dp f.sub).s=[]) (h4:f.kind=4→IntKind.i64.wrap f.df=f.df):GoodF (GoodP d) f (dfF dp f):=by
 unfold GoodF dfF
 by_cases h11:f.kind=11
 ·rw [if_pos h11,if_neg (by omega),if_neg (by omega),if_neg (by omega),if_pos h11]
  exact ⟨by simp [Tree.l],fun y hy=>by simp [Tree.l] at hy⟩
 ·rw [if_neg h11]
  by_cases h8:f.kind=8
  ·rw [if_pos h8];exact good1_oct (by simp) (by omega)
  ·rw [if_neg h8]
   by_cases h7:f.kind=7
   ·rw [if_pos h7];exact good1_oct (by rw [uuidS_len];omega) (by omega)
   ·rw [if_neg h7]
    by_cases h9:f.kind=9
    ·rw [if_pos h9];exact good1_oct (by simp) (by omega)
    ·rw [if_neg h9,if_neg h11]
     by_cases h10:f.kind=10
     ·rw [if_pos h10]
      have:=hdp h10
      refine ⟨fun h=>by omega,?_,fun _=>Good_setNull this.1 _⟩
      have e:((dp f.sub).setNull (decide (0≤f.null))).s=(dp f.sub).s:=by cases dp f.sub;rfl
      rw [e,this.2];simp
     ·rw [if_neg h10];exact good1_num h4 h10
theorem okDf_f {d:Nat} {fs:List Fld} (h:okDf (d+1) fs=true) {f:Fld} (hf:f∈fs):(f.kind=4→IntKind.i64.wrap f.df=f.df)∧(f.kind=10∨f.of=10→okDf d f.sub=true):=by
 unfold okDf at h
 rw [Bool.and_eq_true] at h
 have:=List.all_eq_true.1 h.2 f hf
 simp only [Bool.and_eq_true,Bool.or_eq_true,Bool.not_eq_true',decide_eq_false_iff_not,decide_eq_true_eq] at this
 refine ⟨fun h4=>this.1.resolve_left fun h=>h h4,fun h10=>this.2.resolve_left fun h => ?_⟩
 rcases h10 with h10|h10
 ·exact h.1 h10
 ·exact h.2 h10
theorem dfP_good : ∀ (d:Nat) (fs:List Fld),okDf d fs=true→GoodP d fs (dfP d fs)
 | 0,_,_=>trivial
 | d+1,fs,h=>by
  refine ⟨?_,by simp [dfP,Tree.u,GoodU]⟩
  have key:∀ (gs:List Fld),(∀ f∈gs,f∈fs)→All3 (GoodF (GoodP d)) gs (gs.map (dfF (dfP d))):=by
   intro gs
   induction gs with
   | nil=>intro _;exact .nil
   | cons f gs ih =>
    intro hm
    have hf:=okDf_f h (hm f (by simp))
    exact .cons (dfF_good (fun h10=>⟨dfP_good d f.sub (hf.2 (.inl h10)),(dfP_sn d f.sub).1⟩) hf.1) (ih fun g hg=>hm g (by simp [hg]))
  exact goodL_of (G:=GoodP d) [] (key fs fun _ h=>h)
theorem rdP_good (v:Int) (flex:Bool):∀ (d:Nat) (fs:List Fld),okDf d fs=true→∀ st,stLen st≤32766→GoodP d fs (rdP d v flex fs st).1
 | 0,_,_,_,_=>trivial
 | d+1,fs,h,st,hst=>by
  have key:∀ (gs:List Fld),(∀ f∈gs,f∈fs)→∀ st,stLen st≤32766→All3 (GoodF (GoodP d)) gs (rdL (rdP d v flex) (dfP d) v flex gs st).1:=by
   intro gs
   induction gs with
   | nil=>intro _ st _;exact .nil
   | cons f gs ih =>
    intro hm st hst
    have hf:=okDf_f h (hm f (by simp))
    rw [rdL]
    split
    ·refine .cons ?_ (ih (fun g hg=>hm g (by simp [hg])) _ (Nat.le_trans (rdF_shr (rdP_shr v flex d) v flex f st) hst))
     unfold GoodF rdF
     by_cases h11:f.kind=11
     ·rw [if_pos h11,if_pos h11]
      unfold rdList
      have hz:=rdALen_len flex st
      have hg:=rdMany_good (R:=Good1 (GoodP d) f.of f.sub) (r:=rd1 (rdP d v flex) f.of f.sub false flex) (rd1_shr (rdP_shr v flex d) _ _ _ _)
       (fun st hst=>rd1_good hst (fun h10=>rdP_good v flex d f.sub (hf.2 (.inr h10)) st hst) (fun _=>(rdP_sn v flex d f.sub st).1) (fun _=>(rdP_sn v flex d f.sub st).2)) (rdALen flex st).1.toNat (rdALen flex st).2 (Nat.le_trans (rdALen_shr flex st) hst)
      exact ⟨by rw [show Tree.l (.mk 0 [] _ (rdMany _ _ _).1 [])=(rdMany _ _ _).1 from rfl,hg.1];omega,hg.2⟩
     ·rw [if_neg h11,if_neg h11]
      exact rd1_good hst (fun h10=>rdP_good v flex d f.sub (hf.2 (.inl h10)) st hst) (fun _=>(rdP_sn v flex d f.sub st).1) (fun _=>(rdP_sn v flex d f.sub st).2)
    ·exact .cons (dfF_good (fun h10=>⟨dfP_good d f.sub (hf.2 (.inl h10)),(dfP_sn d f.sub).1⟩) hf.1) (ih (fun g hg=>hm g (by simp [hg])) st hst)
  have hl:=key fs (fun _ h=>h) st hst
  rw [rdP]
  split
  ·exact ⟨goodL_of (G:=GoodP d) [] hl,rdTags_good (Nat.le_trans (rdL_shr (rdP_shr v flex d) v flex fs st) hst)⟩
  ·exact ⟨goodL_of (G:=GoodP d) [] hl,by simp [Tree.u,GoodU]⟩

theorem okDf_len {d:Nat} {fs:List Fld} (h:okDf (d+1) fs=true):fs.length≤32767:=by
 unfold okDf at h
 rw [Bool.and_eq_true,decide_eq_true_eq] at h
 exact h.1
theorem small_num (n:Int):Small 32767 (.num n):=.mk (by simp) (by simp) (by simp) (fun i h=>by simp at h) (fun x h=>by simp at h)
theorem small_oct (b:Bool) {s:List UInt8} (h:s.length≤32767):Small 32767 (.oct b s):=.mk h (by simp) (by simp) (fun i h=>by simp at h) (fun x h=>by simp at h)
theorem small_list (b:Bool) {l:List Tree} (hl:l.length≤32767) (h:∀ x∈l,Small 32767 x):Small 32767 (.mk 0 [] b l []):=.mk (by simp) hl (by simp) (fun i hi=>h _ (List.getElem_mem hi)) (fun x h=>by simp at h)
theorem tl1_small {d:Nat} {k:Int} {sub:List Fld} {x:Tree} (hg:Good1 (GoodP d) k sub x) (hp:k=10→GoodP d sub x→Small 32767 (tlP d sub x)):Small 32767 (tl1 (tlP d) k sub x):=by
 unfold tl1
 split
 ·exact small_num _
 ·split
  ·exact small_oct _ (by rw [uuidS_len];omega)
  ·split
   ·exact small_oct _ hg.2.1
   ·split
    ·refine small_oct _ ?_
     split
     ·simp
     ·exact hg.2.1
    ·split
     ·rename_i h10;exact hp h10 (hg.2.2 h10)
     ·exact small_num _
theorem tlL_len (tp:List Fld→Tree→Tree) (t:Tree):∀ fs i,(tlL tp t fs i).length=fs.length
 | [],_=>rfl
 | f :: fs,i=>by simp [tlL,tlL_len tp t fs]
theorem tlP_small : ∀ (d:Nat) (fs:List Fld) (t:Tree),okDf d fs=true→GoodP d fs t→Small 32767 (tlP d fs t)
 | 0,_,_,_,_=>.mk (by simp) (by simp) (by simp) (fun i h=>by simp at h) (fun x h=>by simp at h)
 | d+1,fs,t,ho,h=>by
  have key:∀ (gs:List Fld) (i:Nat),(∀ f∈gs,f∈fs)→GoodL (GoodP d) t gs i→∀ y∈tlL (tlP d) t gs i,Small 32767 y:=by
   intro gs
   induction gs with
   | nil=>intro i _ _ y hy;simp [tlL] at hy
   | cons f gs ih =>
    intro i hm hg y hy
    rcases List.mem_cons.1 hy with rfl|hy
    ·have hf:=(okDf_f ho (hm f (by simp))).2
     unfold tlF
     split
     ·rename_i h8
      refine small_oct _ ?_
      have h1:=(hg.1.one (by omega)).2.1
      split
      ·simp
      ·exact h1
     ·split
      ·rename_i h11
       have hl:=hg.1.listL h11 rfl
       refine small_list _ (by rw [List.length_map];exact hl.1) fun x hx => ?_
       obtain ⟨z,hz,rfl⟩:=List.mem_map.1 hx
       exact tl1_small (hl.2 z hz) fun h10 hgz=>tlP_small d f.sub z (hf (.inr h10)) hgz
      ·rename_i h11
       exact tl1_small (hg.1.one h11) fun h10 hgz=>tlP_small d f.sub _ (hf (.inl h10)) hgz
    ·exact ih (i+1) (fun g hg=>hm g (by simp [hg])) hg.2 y hy
  have hu:=h.2
  exact .mk (by simp) (by rw [tlL_len];exact okDf_len ho) (by rw [(sortT_perm t.u).length_eq];exact hu.1)
   (fun i hi=>key fs 0 (fun _ h=>h) h.1 _ (List.getElem_mem hi)) (fun x hx=>hu.2.2 x ((sortT_perm t.u).mem_iff.1 hx))
theorem Small.lists {t:Tree} (h:Small 32767 t):Lists t:=by
 induction h with
 | mk hs hl hu he hd ih=>exact .mk hl hu ih
end Ms

namespace Ms
open Go.World renaming size_alloc → qI
open Ms renaming size_wr → qJ,size_drew → qK,not_noB → qL
open W renaming seqR → qA,seq → qB,regR → qC,condK → qD,block → qE,skip → qF,ret → qG,exit → qH
open Nat renaming reduceEqDiff → n0,reduceAdd → n1,reduceMul → n2,reduceSub → n3,reduceLT → n4,reduceLeDiff → n5
open Int renaming reduceEq → i0,reduceLT → i1,reduceLE → i2,reduceNeg → i3,reduceAdd → i4,reduceSub → i5,reduceMul → i6,reduceToNat → i7
set_option maxRecDepth 8000
set_option maxHeartbeats 2000000
open Go Go.Proofs Go.Shelf
attribute [local congr] W_congr WPsq_congr WPp_congr optK_congr addrK_congr intK_congr boolK_congr sliceK_congr tupleK_congr funcK_congr Fn_congr rawK_congr takeK_congr stepK_congr convK_congr aggK_congr

theorem got_step (t:Tree) (hl2:t.l.length≤32767) (hl3:t.u.length≤32767)
  (hrec:∀ i (h:i < t.l.length),∀ (ok:Blocks) (ct:List Value) (w:World),TreeC ok w t.l[i] ct→Fn Tryd.prog 9 #[.agg ct.toArray] w fun r w'=>TreeRg ok w w' r t.l[i]∧Ext w w')
  (ok:Blocks) (ct:List Value) (w:World) (ht:TreeC ok w t ct) :
  Fn Tryd.prog 9 #[.agg ct.toArray] w fun r w'=>TreeRg ok w w' r t∧Ext w w':=by
 obtain ⟨vS,vL,vU,rfl,hn,hS,hL,hU⟩:=ht.inv
 obtain ⟨bS,cS,rfl,hcS⟩:=hS.shape
 obtain ⟨bl,cl,rfl,hcl⟩:=SlR.shape hL
 obtain ⟨bu,cu,rfl,hcu⟩:=SlR.shape hU
 have hE:Ext w (wr (((w.alloc (.cells #[.int .i64 t.n,.slice bS t.s.length cS,.bool t.null,.slice bl t.l.length cl,.slice bu t.u.length cu] 27)).alloc (.cells #[.int .i64 0,.slice none 0 0,.bool false,.slice none 0 0,.slice none 0 0] 35)).alloc (.cells #[.int .i64 0,.slice none 0 0,.bool false,.slice none 0 0,.slice none 0 0] 35)) (w.heap.size+2) 0 [.int .i64 t.n,.slice bS t.s.length cS,.bool t.null,.slice none 0 0,.slice none 0 0]):=(((Upd.refl _ _).alloc _).alloc _).alloc _ |>.wr _ _ (.inl (by omega))
 refine fn_of_W Tryd.func9 rfl Tryd.results9 Tryd.ntmps9 rfl ?_
 repeat ((first|refine qA rfl ?_|apply qB|refine qC rfl ?_|apply qD|apply qE|apply qF|apply qG|apply qH);try simp (disch:=(first|omega|(simp only [qI,qJ,qK]<;>omega)|exact qL _)) only [go_sem,↓reduceIte,n0,reduceCtorEq,n1,n2,n3,n4,n5,i0,i1,i2,i3,i4,i5,i6,i7])
 have hb0:blk (wr (((w.alloc (.cells #[.int .i64 t.n,.slice bS t.s.length cS,.bool t.null,.slice bl t.l.length cl,.slice bu t.u.length cu] 27)).alloc (.cells #[.int .i64 0,.slice none 0 0,.bool false,.slice none 0 0,.slice none 0 0] 35)).alloc (.cells #[.int .i64 0,.slice none 0 0,.bool false,.slice none 0 0,.slice none 0 0] 35)) (w.heap.size+2) 0 [.int .i64 t.n,.slice bS t.s.length cS,.bool t.null,.slice none 0 0,.slice none 0 0]) w.heap.size=some (#[.int .i64 t.n,.slice bS t.s.length cS,.bool t.null,.slice bl t.l.length cl,.slice bu t.u.length cu],27,(0,0)):=by simp (disch:=(first|omega|(simp only [qI,qJ,qK]<;>omega)|exact qL _)) only [go_sem,↓reduceIte,n0,reduceCtorEq,n1,n2,n3,n4,n5,i0,i1,i2,i3,i4,i5,i6,i7]
 have hb1:blk (wr (((w.alloc (.cells #[.int .i64 t.n,.slice bS t.s.length cS,.bool t.null,.slice bl t.l.length cl,.slice bu t.u.length cu] 27)).alloc (.cells #[.int .i64 0,.slice none 0 0,.bool false,.slice none 0 0,.slice none 0 0] 35)).alloc (.cells #[.int .i64 0,.slice none 0 0,.bool false,.slice none 0 0,.slice none 0 0] 35)) (w.heap.size+2) 0 [.int .i64 t.n,.slice bS t.s.length cS,.bool t.null,.slice none 0 0,.slice none 0 0]) (w.heap.size+1)=some (#[.int .i64 0,.slice none 0 0,.bool false,.slice none 0 0,.slice none 0 0],35,(0,0)):=by simp (disch:=(first|omega|(simp only [qI,qJ,qK]<;>omega)|exact qL _)) only [go_sem,↓reduceIte,n0,reduceCtorEq,n1,n2,n3,n4,n5,i0,i1,i2,i3,i4,i5,i6,i7]
 have hb2:blk (wr (((w.alloc (.cells #[.int .i64 t.n,.slice bS t.s.length cS,.bool t.null,.slice bl t.l.length cl,.slice bu t.u.length cu] 27)).alloc (.cells #[.int .i64 0,.slice none 0 0,.bool false,.slice none 0 0,.slice none 0 0] 35)).alloc (.cells #[.int .i64 0,.slice none 0 0,.bool false,.slice none 0 0,.slice none 0 0] 35)) (w.heap.size+2) 0 [.int .i64 t.n,.slice bS t.s.length cS,.bool t.null,.slice none 0 0,.slice none 0 0]) (w.heap.size+2)=some (#[.int .i64 t.n,.slice bS t.s.length cS,.bool t.null,.slice none 0 0,.slice none 0 0],35,(0,0)):=by simp (disch:=(first|omega|(simp only [qI,qJ,qK]<;>omega)|exact qL _)) only [go_sem,↓reduceIte,n0,reduceCtorEq,n1,n2,n3,n4,n5,i0,i1,i2,i3,i4,i5,i6,i7]
 have hz2:(wr (((w.alloc (.cells #[.int .i64 t.n,.slice bS t.s.length cS,.bool t.null,.slice bl t.l.length cl,.slice bu t.u.length cu] 27)).alloc (.cells #[.int .i64 0,.slice none 0 0,.bool false,.slice none 0 0,.slice none 0 0] 35)).alloc (.cells #[.int .i64 0,.slice none 0 0,.bool false,.slice none 0 0,.slice none 0 0] 35)) (w.heap.size+2) 0 [.int .i64 t.n,.slice bS t.s.length cS,.bool t.null,.slice none 0 0,.slice none 0 0]).heap.size=w.heap.size+3:=by simp only [size_wr,World.size_alloc]
 generalize (wr (((w.alloc (.cells #[.int .i64 t.n,.slice bS t.s.length cS,.bool t.null,.slice bl t.l.length cl,.slice bu t.u.length cu] 27)).alloc (.cells #[.int .i64 0,.slice none 0 0,.bool false,.slice none 0 0,.slice none 0 0] 35)).alloc (.cells #[.int .i64 0,.slice none 0 0,.bool false,.slice none 0 0,.slice none 0 0] 35)) (w.heap.size+2) 0 [.int .i64 t.n,.slice bS t.s.length cS,.bool t.null,.slice none 0 0,.slice none 0 0])=w2 at *
 refine W.exitJ 0 (fun ρ w'=>∃ v,ρ 1 = .pointer (some ⟨w.heap.size,0,none⟩)∧ρ 2 = .pointer (some ⟨w.heap.size+1,0,none⟩)∧ρ 3 = .pointer (some ⟨w.heap.size+2,0,none⟩) ∧
   blk w' (w.heap.size+2)=some (#[.int .i64 t.n,.slice bS t.s.length cS,.bool t.null,v,.slice none 0 0],35,(0,0))∧GrowT (fun b=>okN ok w.heap.size b∧b≠w.heap.size+1∧b≠w.heap.size+2) w2.heap.size (w.heap.size+2) w' 35 v t.l∧Upd (fun b=>b=w.heap.size+2) w2 w')
  (W.loop (fun ρ w'=>∃ (j:Nat) (v:Value),j≤t.l.length∧ρ 18 = .int .i64 j∧ρ 17 = .int .i64 t.l.length∧ρ 16 = .slice bl t.l.length cl∧ρ 1 = .pointer (some ⟨w.heap.size,0,none⟩)∧ρ 2 = .pointer (some ⟨w.heap.size+1,0,none⟩)∧ρ 3 = .pointer (some ⟨w.heap.size+2,0,none⟩) ∧
   blk w' (w.heap.size+2)=some (#[.int .i64 t.n,.slice bS t.s.length cS,.bool t.null,v,.slice none 0 0],35,(0,0))∧GrowT (fun b=>okN ok w.heap.size b∧b≠w.heap.size+1∧b≠w.heap.size+2) w2.heap.size (w.heap.size+2) w' 35 v (t.l.take j)∧Upd (fun b=>b=w.heap.size+2) w2 w')
  (fun ρ _=>t.l.length - (RowKit.intOf (ρ 18)).toNat) ?_ ?_) ?_
 ·refine ⟨0,_,Nat.zero_le _,?_,?_,?_,?_,?_,?_,hb2,GrowT.nil _ _ _ _ _,Upd.refl _ _⟩<;>simp (disch:=(first|omega|(simp only [qI,qJ,qK]<;>omega)|exact qL _)) only [go_sem,↓reduceIte,n0,reduceCtorEq,n1,n2,n3,n4,n5,i0,i1,i2,i3,i4,i5,i6,i7]
  all_goals rfl
 ·rintro ρ w6 ⟨j,v,hj,h18,h17,h16,h1,h2,h3,hbt,hg,hU6⟩
  have hz6:=hU6.size
  have hE06:Ext w w6:=hE.more hU6 fun b hb h=>by omega
  by_cases hlt:j < t.l.length
  ·obtain ⟨_,b,o,x,vS',vL',vU',hb,hokb,hx,hblt,hxs,hxe,g1,g2,g3,hc⟩:=TreesV.get hL hlt
   subst hb
   have hx6:blk w6 b=some x:=hE06.blk_some hx id
   have hcat:t.l.take (j+1)=t.l.take j++[t.l[j]]:=List.take_succ_eq_append_getElem hlt
   have hlen9:(t.l.take j).length=j:=by simp;omega
   have hnb:∀ b,b < w2.heap.size∨b=w6.heap.size→¬ ownB v b:=fun b hb h=>by
    have:=hg.above h
    have:=hg.below h
    omega
   have hE7:Ext w6 (wr (w6.alloc (.cells #[.int .i64 0,.slice none 0 0,.bool false,.slice none 0 0,.slice none 0 0] 27)) w6.heap.size 0 [.int .i64 t.l[j].n,vS',.bool t.l[j].null,vL',vU']):=(Upd.alloc (Upd.refl _ _) _).wr _ _ (.inl (Nat.le_refl _))
   have hb7:blk (wr (w6.alloc (.cells #[.int .i64 0,.slice none 0 0,.bool false,.slice none 0 0,.slice none 0 0] 27)) w6.heap.size 0 [.int .i64 t.l[j].n,vS',.bool t.l[j].null,vL',vU']) w6.heap.size=some (#[.int .i64 t.l[j].n,vS',.bool t.l[j].null,vL',vU'],27,(0,0)):=by simp (disch:=(first|omega|(simp only [qI,qJ,qK]<;>omega)|exact qL _)) only [go_sem,↓reduceIte,n0,reduceCtorEq,n1,n2,n3,n4,n5,i0,i1,i2,i3,i4,i5,i6,i7]
   have hz7:(wr (w6.alloc (.cells #[.int .i64 0,.slice none 0 0,.bool false,.slice none 0 0,.slice none 0 0] 27)) w6.heap.size 0 [.int .i64 t.l[j].n,vS',.bool t.l[j].null,vL',vU']).heap.size=w6.heap.size+1:=by simp only [size_wr,World.size_alloc]
   have hrecj:=hrec j hlt (fun b=>ok b∧b < w.heap.size) [.int .i64 t.l[j].n,vS',.bool t.l[j].null,vL',vU']
   repeat ((first|refine qA rfl ?_|apply qB|refine qC rfl ?_|apply qD|apply qE|apply qF|apply qG|apply qH);try simp (disch:=(first|omega|(simp only [qI,qJ,qK]<;>omega)|exact qL _)) only [go_sem,↓reduceIte,n0,reduceCtorEq,n1,n2,n3,n4,n5,i0,i1,i2,i3,i4,i5,i6,i7,h18,h17,h16,hx6,hxe,g1,g2,g3,cellsAt_five,Int.toNat_natCast])
   generalize (wr (w6.alloc (.cells #[.int .i64 0,.slice none 0 0,.bool false,.slice none 0 0,.slice none 0 0] 27)) w6.heap.size 0 [.int .i64 t.l[j].n,vS',.bool t.l[j].null,vL',vU'])=w7 at *
   have hbt7:=hE7.blk_some hbt id
   refine W.drawR (.take 0 (.take 1 (.take 2 (.only 3 (.only 4 (.only 5 (.take 6 (.last 7)))))))) (ownB v) mixed (by kernel_rfl) ?_
   simp (disch:=(first|omega|(simp only [qI,qJ,qK]<;>omega)|exact qL _|(refine hnb _ ?_;first|omega|(simp only [World.size_alloc,size_wr,size_drew]<;>omega)))) only [go_sem,↓reduceIte,n0,reduceCtorEq,n1,n2,n3,n4,n5,i0,i1,i2,i3,i4,i5,i6,i7,h3,hbt7,hb7,cellsAt_five,cellsAt_eight]
   have hE7d:Ext w7 w7.drew:=(Upd.refl _ _).drew
   have hE07d:Ext w w7.drew:=(hE06.trans hE7).trans hE7d
   have hzd:w7.drew.heap.size=w7.heap.size:=size_drew _
   refine (hrecj w7.drew ((hc.weaken fun b h1 h2=>⟨h2,h1⟩).keep (hE07d.keeps _))).mono ?_
   rintro v8 w8 ⟨⟨c8,rfl,hc8⟩,hE8⟩
   generalize t.l[j] = T at *
   obtain ⟨vS8,vL8,vU8,rfl,hn8,hS8,hL8,hU8⟩:=hc8.inv
   have k1:=hS8.flat
   have k2:=SlR.flat hL8
   have k3:=SlR.flat hU8
   have hz8:=hE8.size
   simp only [size_drew] at hz8
   have hM8:Upd (ownB v) w7.drew w8:=hE8.mono (fun _ h=>h.elim)
   have hE68:Ext w6 w8:=(hE7.trans hE7d).trans hE8
   have hE9:Ext w8 (w8.alloc (.cells #[.int .i64 T.n,vS8,.bool T.null,vL8,vU8] 35)):=Upd.alloc (Upd.refl _ _) _
   have hM9:Upd (ownB v) w7.drew (w8.alloc (.cells #[.int .i64 T.n,vS8,.bool T.null,vL8,vU8] 35)):=hM8.alloc _
   refine ⟨hM8,?_⟩
   simp (disch:=(first|omega|(simp only [qI,qJ,qK]<;>omega)|exact qL _)) only [go_sem,↓reduceIte,n0,reduceCtorEq,n1,n2,n3,n4,n5,i0,i1,i2,i3,i4,i5,i6,i7,k1,k2,k3]
   refine ⟨hM9,?_⟩
   have hg9:=(hg.ext hE68).ext hE9
   have hx9:TreeC (fun b=>(fun b=>okN ok w.heap.size b∧b≠w.heap.size+1∧b≠w.heap.size+2) b∧b≠w.heap.size+2∧¬ ownB v b) (w8.alloc (.cells #[.int .i64 T.n,vS8,.bool T.null,vL8,vU8] 35)) T [.int .i64 T.n,vS8,.bool T.null,vL8,vU8] :=
    (hc8.keep (hE9.keeps _)).weaken fun b _ hk=>by
     rcases hk with ⟨h1,h2⟩|h2
     ·exact ⟨⟨.inl h1,by omega,by omega⟩,by omega,fun h=>by have:=hg.above h;omega⟩
     ·exact ⟨⟨.inr (by omega),by omega,by omega⟩,by omega,fun h=>by have:=hg.below h;omega⟩
   obtain ⟨css,hown,hall⟩:=hg9.ex
   have hcl9:=hall.1
   refine wp_append ap_32_32 (m:=1) (news:=[.int .i64 T.n,vS8,.bool T.null,vL8,vU8]) (n:=css.length) (cs:=css.flatten) (v:=v) ?_ rfl hown.1 (all2_flat_tree hall) (Src.blk (fr:=(0,0)) (T:=35) (blk_alloc_new rfl) rfl (flat_tree hx9).1) ?_ ?_ ?_
   ·simp (disch:=(first|omega|(simp only [qI,qJ,qK]<;>omega)|exact qL _)) only [go_sem,↓reduceIte,n0,reduceCtorEq,n1,n2,n3,n4,n5,i0,i1,i2,i3,i4,i5,i6,i7]
   ·simp only [World.size_alloc];omega
   ·omega
   intro v' w10 ho hu hfr
   have hg10:=GrowT.snoc hown hall hx9 hu hfr ho
   have hz10:=hu.size
   simp only [World.size_alloc] at hz10
   obtain ⟨va,vc,hv',_⟩:=ho.shape
   subst hv'
   have hbt10:=(hM9.trans hu).blk_some (hE7d.blk_some hbt7 id) (hnb _ (by omega))
   have htb:¬ ownB (.slice va (css.length+1) vc) (w.heap.size+2):=fun h=>by
    rcases hfr _ h with h|h
    ·exact hnb _ (.inl (by omega)) h
    ·simp only [World.size_alloc] at h;omega
   simp (disch:=(first|omega|(simp only [qI,qJ,qK]<;>omega)|exact qL _)) only [go_sem,↓reduceIte,n0,reduceCtorEq,n1,n2,n3,n4,n5,i0,i1,i2,i3,i4,i5,i6,i7]
   refine ⟨hM9.trans hu,?_⟩
   simp (disch:=(first|omega|(simp only [qI,qJ,qK]<;>omega)|exact qL _)) only [go_sem,↓reduceIte,n0,reduceCtorEq,n1,n2,n3,n4,n5,i0,i1,i2,i3,i4,i5,i6,i7,h3,hbt10]
   repeat ((first|refine qA rfl ?_|apply qB|refine qC rfl ?_|apply qD|apply qE|apply qF|apply qG|apply qH);try simp (disch:=(first|omega|(simp only [qI,qJ,qK]<;>omega)|exact qL _)) only [go_sem,↓reduceIte,n0,reduceCtorEq,n1,n2,n3,n4,n5,i0,i1,i2,i3,i4,i5,i6,i7,h18])
   refine ⟨⟨j+1,.slice va (css.length+1) vc,by omega,rfl,h17,h16,h1,h2,h3,?_,?_,?_⟩,?_⟩
   ·simp (disch:=(first|omega|(simp only [qI,qJ,qK]<;>omega)|exact qL _)) only [go_sem,↓reduceIte,n0,reduceCtorEq,n1,n2,n3,n4,n5,i0,i1,i2,i3,i4,i5,i6,i7,hbt10]
   ·rw [hcat];exact hg10.upd ((Upd.refl _ _).wr _ _ (.inr rfl)) htb
   ·refine Upd.wr ?_ _ _ (.inr rfl)
    exact hU6.more (((hE68.trans hE9).mono fun _ h=>h.elim).trans hu) fun b hb h=>by have:=hg.above h;omega
   ·simp only [RowKit.intOf];omega
  ·have hjl:j=t.l.length:=by omega
   subst hjl
   rw [List.take_length] at hg
   repeat ((first|refine qA rfl ?_|apply qB|refine qC rfl ?_|apply qD|apply qE|apply qF|apply qG|apply qH);try simp (disch:=(first|omega|(simp only [qI,qJ,qK]<;>omega)|exact qL _)) only [go_sem,↓reduceIte,n0,reduceCtorEq,n1,n2,n3,n4,n5,i0,i1,i2,i3,i4,i5,i6,i7,h18,h17])
   exact ⟨v,h1,h2,h3,hbt,hg,hU6⟩
 ·rintro ρ w5 ⟨vl,h1,h2,h3,hbt,hg,hU5⟩
  have hz5:=hU5.size
  have hE05:Ext w w5:=hE.more hU5 fun b hb h=>by omega
  have hb05:=hU5.blk_some hb0 (by omega)
  have hb15:=hU5.blk_some hb1 (by omega)
  obtain ⟨al,cl',hvl,hcl'⟩:=hg.shape
  subst hvl
  have hTL:TreesV (fun b=>(fun b=>okN ok w.heap.size b∧b≠w.heap.size+1∧b≠w.heap.size+2) b∧b < w5.heap.size) w5 (.slice al t.l.length cl') t.l :=
   (hg.trees (ok':=(fun b=>okN ok w.heap.size b∧b≠w.heap.size+1∧b≠w.heap.size+2)) (fun _ _ h=>h) (fun b hb=>⟨.inr (by omega),by omega,by omega⟩)).weaken fun b h1 h2=>⟨h2,h1⟩
  simp (disch:=(first|omega|(simp only [qI,qJ,qK]<;>omega)|exact qL _)) only [go_sem,↓reduceIte,n0,reduceCtorEq,n1,n2,n3,n4,n5,i0,i1,i2,i3,i4,i5,i6,i7]
  repeat ((first|refine qA rfl ?_|apply qB|refine qC rfl ?_|apply qD|apply qE|apply qF|apply qG|apply qH);try simp (disch:=(first|omega|(simp only [qI,qJ,qK]<;>omega)|exact qL _)) only [go_sem,↓reduceIte,n0,reduceCtorEq,n1,n2,n3,n4,n5,i0,i1,i2,i3,i4,i5,i6,i7,h1,hb05])
  refine W.loop (fun ρ w'=>∃ (j:Nat) (v:Value),j≤t.u.length∧ρ 33 = .int .i64 j∧ρ 32 = .int .i64 t.u.length∧ρ 31 = .slice bu t.u.length cu∧ρ 2 = .pointer (some ⟨w.heap.size+1,0,none⟩)∧ρ 3 = .pointer (some ⟨w.heap.size+2,0,none⟩) ∧
    blk w' (w.heap.size+2)=some (#[.int .i64 t.n,.slice bS t.s.length cS,.bool t.null,.slice al t.l.length cl',v],35,(0,0))∧GrowU (fun b=>okN ok w.heap.size b∧b≠w.heap.size+1∧b≠w.heap.size+2) w5.heap.size (w.heap.size+2) w' 50 v (t.u.take j)∧Upd (fun b=>b=w.heap.size+2) w5 w')
   (fun ρ _=>t.u.length - (RowKit.intOf (ρ 33)).toNat) ?_ ?_
  ·refine ⟨0,_,Nat.zero_le _,?_,?_,?_,?_,?_,hbt,GrowU.nil _ _ _ _ _,Upd.refl _ _⟩<;>simp (disch:=(first|omega|(simp only [qI,qJ,qK]<;>omega)|exact qL _)) only [go_sem,↓reduceIte,n0,reduceCtorEq,n1,n2,n3,n4,n5,i0,i1,i2,i3,i4,i5,i6,i7,h2,h3]
   all_goals rfl
  ·clear h1 h2 h3 hg hbt
   rintro ρ w6 ⟨j,v,hj,h33,h32',h31,h2,h3,hbt,hg,hU6⟩
   have hz6:=hU6.size
   have hE06:Ext w w6:=hE05.more hU6 fun b hb h=>by omega
   by_cases hlt:j < t.u.length
   ·obtain ⟨_,b,o,x,vv,hb,hokb,hx,hblt,hxs,hxe,_,_,hfv,hbv,h32⟩:=TagsV.get hU hlt
    subst hb
    have hx6:blk w6 b=some x:=hE06.blk_some hx id
    have hcat:t.u.take (j+1)=t.u.take j++[(t.u[j].1,t.u[j].2)]:=List.take_succ_eq_append_getElem hlt
    have hlen9:(t.u.take j).length=j:=by simp;omega
    have hnb:∀ b,b < w5.heap.size∨b=w6.heap.size→¬ ownB v b:=fun b hb h=>by
     have:=hg.above h
     have:=hg.below h
     omega
    generalize t.u[j].1=K at *
    generalize t.u[j].2=S at *
    obtain ⟨b8',c8',rfl,_⟩:=hbv.shape
    have hE8:Ext w6 (wr (w6.alloc (.cells #[.int .u32 0,.slice none 0 0] 51)) w6.heap.size 0 [.int .u32 K,.slice b8' S.length c8']):=(Upd.alloc (Upd.refl _ _) _).wr _ _ (.inl (Nat.le_refl _))
    have hb8:blk (wr (w6.alloc (.cells #[.int .u32 0,.slice none 0 0] 51)) w6.heap.size 0 [.int .u32 K,.slice b8' S.length c8']) w6.heap.size=some (#[.int .u32 K,.slice b8' S.length c8'],51,(0,0)):=by simp (disch:=(first|omega|(simp only [qI,qJ,qK]<;>omega)|exact qL _)) only [go_sem,↓reduceIte,n0,reduceCtorEq,n1,n2,n3,n4,n5,i0,i1,i2,i3,i4,i5,i6,i7]
    have hz8:(wr (w6.alloc (.cells #[.int .u32 0,.slice none 0 0] 51)) w6.heap.size 0 [.int .u32 K,.slice b8' S.length c8']).heap.size=w6.heap.size+1:=by simp only [size_wr,World.size_alloc]
    repeat ((first|refine qA rfl ?_|apply qB|refine qC rfl ?_|apply qD|apply qE|apply qF|apply qG|apply qH);try simp (disch:=(first|omega|(simp only [qI,qJ,qK]<;>omega)|exact qL _)) only [go_sem,↓reduceIte,n0,reduceCtorEq,n1,n2,n3,n4,n5,i0,i1,i2,i3,i4,i5,i6,i7,h33,h32',h31,h3,hx6,hxe,hbt,cellsAt_two,Int.toNat_natCast])
    generalize (wr (w6.alloc (.cells #[.int .u32 0,.slice none 0 0] 51)) w6.heap.size 0 [.int .u32 K,.slice b8' S.length c8'])=w8' at *
    have hbt8:=hE8.blk_some hbt id
    have hbv8:=(hbv.weaken (ok':=fun b=>ok b∧b < w.heap.size) fun b h1 h2=>⟨h2,h1⟩).keep (Ext.keeps (hE06.trans hE8) _)
    have hg8:=hg.ext hE8
    have hMd:Upd (ownB v) w8' (w8'.alloc (.cells #[.int .u32 K,.slice b8' S.length c8'] 50)):=(Upd.refl _ _).alloc _
    have hx9:TagC (fun b=>(fun b=>okN ok w.heap.size b∧b≠w.heap.size+1∧b≠w.heap.size+2) b∧b≠w.heap.size+2∧¬ ownB v b) (w8'.alloc (.cells #[.int .u32 K,(.slice b8' S.length c8')] 50)) (K,S) [.int .u32 K,(.slice b8' S.length c8')] :=
     ⟨(.slice b8' S.length c8'),rfl,(hbv8.keep (Ext.keeps (Upd.alloc (Upd.refl _ _) _) _)).weaken fun b _ hk=>⟨⟨.inl hk.1,by omega,by omega⟩,by omega,fun h=>by have:=hg.above h;omega⟩,h32⟩
    have hg9:=hg8.ext (Upd.alloc (Upd.refl _ _) (.cells #[.int .u32 K,(.slice b8' S.length c8')] 50))
    obtain ⟨css9,hown9,hall9⟩:=hg9.ex
    have hcl9:=hall9.1
    refine wp_append ap_33_33 (m:=1) (news:=[.int .u32 K,(.slice b8' S.length c8')]) (n:=css9.length) (cs:=css9.flatten) (v:=v) ?_ rfl hown9.1 hall9.flat_cells (Src.blk (fr:=(0,0)) (T:=50) (blk_alloc_new (by first|rfl|omega)) rfl (flat_tag hx9).1) ?_ ?_ ?_
    ·simp (disch:=(first|omega|(simp only [qI,qJ,qK]<;>omega)|exact qL _)) only [go_sem,↓reduceIte,n0,reduceCtorEq,n1,n2,n3,n4,n5,i0,i1,i2,i3,i4,i5,i6,i7]
    ·simp only [World.size_alloc];omega
    ·omega
    intro v' w10 ho hu hfr
    have hg10:=GrowU.snoc hown9 hall9 hx9 hu hfr ho
    have hz10:=hu.size
    simp only [World.size_alloc] at hz10
    obtain ⟨va,vc,hv',_⟩:=ho.shape
    subst hv'
    have htb:¬ ownB (.slice va (css9.length+1) vc) (w.heap.size+2):=fun h=>by
     rcases hfr _ h with h|h
     ·exact hnb _ (.inl (by omega)) h
     ·simp only [World.size_alloc] at h;omega
    have hbt10:=(hMd.trans hu).blk_some hbt8 (hnb _ (by omega))
    simp (disch:=(first|omega|(simp only [qI,qJ,qK]<;>omega)|exact qL _)) only [go_sem,↓reduceIte,n0,reduceCtorEq,n1,n2,n3,n4,n5,i0,i1,i2,i3,i4,i5,i6,i7,h3,hbt10]
    repeat ((first|refine qA rfl ?_|apply qB|refine qC rfl ?_|apply qD|apply qE|apply qF|apply qG|apply qH);try simp (disch:=(first|omega|(simp only [qI,qJ,qK]<;>omega)|exact qL _)) only [go_sem,↓reduceIte,n0,reduceCtorEq,n1,n2,n3,n4,n5,i0,i1,i2,i3,i4,i5,i6,i7,h33])
    refine ⟨⟨j+1,.slice va (css9.length+1) vc,by omega,rfl,h32',h31,h2,h3,?_,?_,?_⟩,?_⟩
    ·simp (disch:=(first|omega|(simp only [qI,qJ,qK]<;>omega)|exact qL _)) only [go_sem,↓reduceIte,n0,reduceCtorEq,n1,n2,n3,n4,n5,i0,i1,i2,i3,i4,i5,i6,i7,hbt10]
    ·rw [hcat];exact hg10.upd ((Upd.refl _ _).wr _ _ (.inr rfl)) htb
    ·refine Upd.wr ?_ _ _ (.inr rfl)
     exact hU6.more (((hE8.mono fun _ h=>h.elim).trans hMd).trans hu) fun b hb h=>by have:=hg.above h;omega
    ·simp only [RowKit.intOf];omega
   ·have hjl:j=t.u.length:=by omega
    subst hjl
    rw [List.take_length] at hg
    obtain ⟨va,vc,hv',_⟩:=hg.shape
    subst hv'
    have hb16:=hU6.blk_some hb15 (by omega)
    repeat ((first|refine qA rfl ?_|apply qB|refine qC rfl ?_|apply qD|apply qE|apply qF|apply qG|apply qH);try simp (disch:=(first|omega|(simp only [qI,qJ,qK]<;>omega)|exact qL _)) only [go_sem,↓reduceIte,n0,reduceCtorEq,n1,n2,n3,n4,n5,i0,i1,i2,i3,i4,i5,i6,i7,h33,h32',h2,h3,hbt,hb16,cellsAt_five])
    refine ⟨⟨_,rfl,?_⟩,hE06.wr _ _ (.inl (by omega))⟩
    have hTL6:=hTL.keep (hU6.keeps fun b _ hk e=>by omega)
    have hTU6:=hg.tags (ok':=(fun b=>okN ok w.heap.size b∧b≠w.heap.size+1∧b≠w.heap.size+2)) (fun _ _ h=>h) (fun b hb=>⟨.inr (by omega),by omega,by omega⟩)
    have hS6:=(hS.weaken (ok':=fun b=>ok b∧b < w.heap.size) fun b h1 h2=>⟨h2,h1⟩).keep (Ext.keeps hE06 _)
    have hU9:Upd (fun b=>b=w.heap.size+1) w6 (wr w6 (w.heap.size+1) 0 [.int .i64 t.n,.slice bS t.s.length cS,.bool t.null,.slice al t.l.length cl',.slice va t.u.length vc]):=(Upd.refl _ _).wr _ _ (.inr rfl)
    have ht:t = .mk t.n t.s t.null t.l t.u:=by cases t;rfl
    rw [ht]
    exact TreeC.intro hn ((hS6.keep (hU9.keeps fun b _ hk e=>by omega)).weaken fun b _ hk=>.inl hk.1) ((hTL6.keep (hU9.keeps fun b _ hk e=>hk.1.2.1 e)).weaken fun b _ hk=>hk.1.1) ((hTU6.keep (hU9.keeps fun b _ hk e=>hk.2.1 e)).weaken fun b _ hk=>hk.1)

theorem got_fn {t:Tree} (h:Lists t):∀ (ok:Blocks) (ct:List Value) (w:World),TreeC ok w t ct→Fn Tryd.prog 9 #[.agg ct.toArray] w fun r w'=>TreeRg ok w w' r t∧Ext w w':=by
 induction h with
 | mk hl hu he ih=>exact got_step _ hl hu ih
end Ms

namespace Ms
open Go.World renaming size_alloc → qI
open Ms renaming size_wr → qJ,size_drew → qK,not_noB → qL
open W renaming seqR → qA,seq → qB,regR → qC,condK → qD,block → qE,skip → qF,ret → qG,exit → qH
open Nat renaming reduceEqDiff → n0,reduceAdd → n1,reduceMul → n2,reduceSub → n3,reduceLT → n4,reduceLeDiff → n5
open Int renaming reduceEq → i0,reduceLT → i1,reduceLE → i2,reduceNeg → i3,reduceAdd → i4,reduceSub → i5,reduceMul → i6,reduceToNat → i7
set_option maxRecDepth 8000
open Go Go.Proofs Go.Shelf
attribute [local congr] W_congr WPsq_congr WPp_congr optK_congr addrK_congr intK_congr boolK_congr sliceK_congr tupleK_congr funcK_congr Fn_congr rawK_congr takeK_congr stepK_congr convK_congr aggK_congr

def Plan.pre : Nat→Plan→Plan→Plan
 | k+1,.take i r,d=>.take i (Plan.pre k r d)
 | k+1,.only i r,d=>.only i (Plan.pre k r d)
 | _,_,d=>d
def Plan.drop : Nat→Plan→Plan
 | k+1,.take _ r=>Plan.drop k r
 | k+1,.only _ r=>Plan.drop k r
 | _,p=>p
theorem Plan.pre_drop : ∀ (k:Nat) (p:Plan),Plan.pre k p (Plan.drop k p)=p
 | 0,p=>by cases p<;>rfl
 | k+1,.take i r=>congrArg (Plan.take i) (Plan.pre_drop k r)
 | k+1,.only i r=>congrArg (Plan.only i) (Plan.pre_drop k r)
 | k+1,.done=>rfl
 | k+1,.last _=>rfl
 | k+1,.two ..=>rfl
theorem W.drawO {P:Program} {n id:Nat} {ops:Array Oper} {Q:Exit→Regs→World→Prop} {ρ:Regs} {w:World} (p:Plan) (k:Nat) (M:Nat→Prop) (hm:P.follows .mixedOrders=true)
  (hc:(Region.noSelect ops && fitsL n ops.toList && (p.ok ops (Array.replicate ops.size false) && Nat.ble p.len ops.size))=true)
  (h:∀ DD,DD=Plan.drop k p→WPp P ops M w.drew (Plan.pre k p DD) (Q .normal) ρ w.drew):W P n (.region id ops true) Q ρ w:=by
 have:=h _ rfl
 rw [Plan.pre_drop] at this
 exact W.drawR p M hm hc this

set_option maxHeartbeats 2000000 in
theorem SameTree_step (t:Tree) (hs:t.s.length≤32767) (hl:t.l.length≤32767) (hu:t.u.length≤32767) (hd:∀ x∈t.u,x.2.length≤32767)
  (hrec:∀ i (h:i < t.l.length),∀ (ok:Blocks) (ca cb:List Value) (w:World),TreeC ok w t.l[i] ca→TreeC ok w t.l[i] cb→Fn Tryd.prog 8 #[.agg ca.toArray,.agg cb.toArray] w fun r w'=>r = .bool true∧Ext w w')
  (ok:Blocks) (ca cb:List Value) (w:World) (ha:TreeC ok w t ca) (hb:TreeC ok w t cb):Fn Tryd.prog 8 #[.agg ca.toArray,.agg cb.toArray] w fun r w'=>r = .bool true∧Ext w w':=by
 obtain ⟨aS,aL,aU,rfl,hn,hSa,hLa,hUa⟩:=ha.inv
 obtain ⟨bS,bL,bU,rfl,_,hSb,hLb,hUb⟩:=hb.inv
 obtain ⟨xa,ya,rfl,_⟩:=hSa.shape
 obtain ⟨xb,yb,rfl,_⟩:=hSb.shape
 obtain ⟨pa,qa,rfl,_⟩:=SlR.shape hLa
 obtain ⟨pb,qb,rfl,_⟩:=SlR.shape hLb
 obtain ⟨ua,va,rfl,_⟩:=SlR.shape hUa
 obtain ⟨ub,vb,rfl,_⟩:=SlR.shape hUb
 have hE1:Ext w ((w.alloc (.cells #[.int .i64 t.n,.slice xa t.s.length ya,.bool t.null,.slice pa t.l.length qa,.slice ua t.u.length va] 35)).alloc (.cells #[.int .i64 t.n,.slice xb t.s.length yb,.bool t.null,.slice pb t.l.length qb,.slice ub t.u.length vb] 35)):=Upd.alloc (Upd.alloc (Upd.refl _ _) _) _
 have ha1:blk ((w.alloc (.cells #[.int .i64 t.n,.slice xa t.s.length ya,.bool t.null,.slice pa t.l.length qa,.slice ua t.u.length va] 35)).alloc (.cells #[.int .i64 t.n,.slice xb t.s.length yb,.bool t.null,.slice pb t.l.length qb,.slice ub t.u.length vb] 35)) w.heap.size=some (#[.int .i64 t.n,.slice xa t.s.length ya,.bool t.null,.slice pa t.l.length qa,.slice ua t.u.length va],35,(0,0)):=by simp (disch:=(first|omega|(simp only [qI,qJ,qK]<;>omega)|exact qL _)) only [go_sem,↓reduceIte,n0,reduceCtorEq,n1,n2,n3,n4,n5,i0,i1,i2,i3,i4,i5,i6,i7]
 have hb1:blk ((w.alloc (.cells #[.int .i64 t.n,.slice xa t.s.length ya,.bool t.null,.slice pa t.l.length qa,.slice ua t.u.length va] 35)).alloc (.cells #[.int .i64 t.n,.slice xb t.s.length yb,.bool t.null,.slice pb t.l.length qb,.slice ub t.u.length vb] 35)) (w.heap.size+1)=some (#[.int .i64 t.n,.slice xb t.s.length yb,.bool t.null,.slice pb t.l.length qb,.slice ub t.u.length vb],35,(0,0)):=by simp (disch:=(first|omega|(simp only [qI,qJ,qK]<;>omega)|exact qL _)) only [go_sem,↓reduceIte,n0,reduceCtorEq,n1,n2,n3,n4,n5,i0,i1,i2,i3,i4,i5,i6,i7]
 have hsame:decide (t.s=t.s)=true:=decide_eq_true rfl
 refine fn_of_W Tryd.func8 rfl Tryd.results8 Tryd.ntmps8 rfl ?_
 refine W.seqR rfl ?_
 simp (disch:=(first|omega|(simp only [qI,qJ,qK]<;>omega)|exact qL _)) only [go_sem,↓reduceIte,n0,reduceCtorEq,n1,n2,n3,n4,n5,i0,i1,i2,i3,i4,i5,i6,i7]
 generalize ((w.alloc (.cells #[.int .i64 t.n,.slice xa t.s.length ya,.bool t.null,.slice pa t.l.length qa,.slice ua t.u.length va] 35)).alloc (.cells #[.int .i64 t.n,.slice xb t.s.length yb,.bool t.null,.slice pb t.l.length qb,.slice ub t.u.length vb] 35))=w1 at *
 refine W.seq ?_
 refine W.seqO 18 rfl fun O DD hO hDD => ?_
 have hg5:(O[5]?).bind (·.dst)=some 12:=by rw [hO];rfl
 have hg12:(O[12]?).bind (·.dst)=some 19:=by rw [hO];rfl
 have hg20:(O[20]?).bind (·.dst)=some 27:=by rw [hO];rfl
 have hg29:(O[29]?).bind (·.dst)=some 36:=by rw [hO];rfl
 clear hO
 simp only [List.take_succ_cons,List.take_zero,List.cons_append,List.nil_append]
 simp (disch:=(first|omega|(simp only [qI,qJ,qK]<;>omega)|exact qL _)) only [go_sem,↓reduceIte,n0,reduceCtorEq,n1,n2,n3,n4,n5,i0,i1,i2,i3,i4,i5,i6,i7,ha1,hb1,hg5,hg12,hg20,hg29,beq_self_eq_true,bne_self_eq_false,ne_eq,not_true_eq_false,not_false_eq_true]
 refine (Same_fn (ok:=ok) t.s t.s _ _ w1 (hSa.keep (hE1.keeps _)) (hSb.keep (hE1.keeps _)) (by omega)).mono ?_
 rintro _ w2 ⟨rfl,hE2⟩
 have ha2:=hE2.blk_some ha1 id
 have hb2:=hE2.blk_some hb1 id
 have hE02:=hE1.trans hE2
 rw [hDD]
 clear hDD
 simp only [List.drop_succ_cons,List.drop_zero]
 simp (disch:=(first|omega|(simp only [qI,qJ,qK]<;>omega)|exact qL _)) only [go_sem,↓reduceIte,n0,reduceCtorEq,n1,n2,n3,n4,n5,i0,i1,i2,i3,i4,i5,i6,i7,ha2,hb2,hsame,hg5,hg12,hg20,hg29,beq_self_eq_true,bne_self_eq_false,ne_eq,not_true_eq_false,not_false_eq_true]
 repeat ((first|refine qA rfl ?_|apply qB|refine qC rfl ?_|apply qD|apply qE|apply qF|apply qG|apply qH);try simp (disch:=(first|omega|(simp only [qI,qJ,qK]<;>omega)|exact qL _)) only [go_sem,↓reduceIte,n0,reduceCtorEq,n1,n2,n3,n4,n5,i0,i1,i2,i3,i4,i5,i6,i7,ha2,hb2,hsame])
 refine W.exitJ 0 (EndQ [(2,.pointer (some ⟨w.heap.size,0,none⟩)),(3,.pointer (some ⟨w.heap.size+1,0,none⟩))] (fun w'=>Ext w w'∧blk w' w.heap.size=some (#[.int .i64 t.n,.slice xa t.s.length ya,.bool t.null,.slice pa t.l.length qa,.slice ua t.u.length va],35,(0,0))∧blk w' (w.heap.size+1)=some (#[.int .i64 t.n,.slice xb t.s.length yb,.bool t.null,.slice pb t.l.length qb,.slice ub t.u.length vb],35,(0,0))))
  (W.loop (LoopL [(2,.pointer (some ⟨w.heap.size,0,none⟩)),(3,.pointer (some ⟨w.heap.size+1,0,none⟩)),(47,.int .i64 t.l.length)] 48 (fun j w'=>j≤t.l.length∧Ext w w'∧blk w' w.heap.size=some (#[.int .i64 t.n,.slice xa t.s.length ya,.bool t.null,.slice pa t.l.length qa,.slice ua t.u.length va],35,(0,0))∧blk w' (w.heap.size+1)=some (#[.int .i64 t.n,.slice xb t.s.length yb,.bool t.null,.slice pb t.l.length qb,.slice ub t.u.length vb],35,(0,0)))) (fun ρ _=>t.l.length - (RowKit.intOf (ρ 48)).toNat) ?_ ?_) ?_
 ·exact ⟨(by simp (disch:=(first|omega|(simp only [qI,qJ,qK]<;>omega)|exact qL _)) only [go_sem,↓reduceIte,n0,reduceCtorEq,n1,n2,n3,n4,n5,i0,i1,i2,i3,i4,i5,i6,i7,Holds_nil,Holds_cons]),0,(by simp (disch:=(first|omega|(simp only [qI,qJ,qK]<;>omega)|exact qL _)) only [go_sem,↓reduceIte,n0,reduceCtorEq,n1,n2,n3,n4,n5,i0,i1,i2,i3,i4,i5,i6,i7];all_goals rfl),Nat.zero_le _,hE02,ha2,hb2⟩
 ·rintro ρ w3 ⟨⟨h2,h3,hln,-⟩,j,hri,hj,hE3,ha3,hb3⟩
  by_cases hlt:j < t.l.length
  ·obtain ⟨_,b1,o1,x1,vS1,vL1,vU1,e1,k1,hx1,hlt1,hxs1,hxe1,q11,q12,q13,hc1⟩:=TreesV.get (TreesV.keep hLa (hE3.keeps _)) hlt
   obtain ⟨_,b2,o2,x2,vS2,vL2,vU2,e2,k2,hx2,hlt2,hxs2,hxe2,q21,q22,q23,hc2⟩:=TreesV.get (TreesV.keep hLb (hE3.keeps _)) hlt
   subst e1
   subst e2
   repeat ((first|refine qA rfl ?_|apply qB|refine qC rfl ?_|apply qD|apply qE|apply qF|apply qG|apply qH);try simp (disch:=(first|omega|(simp only [qI,qJ,qK]<;>omega)|exact qL _)) only [go_sem,↓reduceIte,n0,reduceCtorEq,n1,n2,n3,n4,n5,i0,i1,i2,i3,i4,i5,i6,i7,h2,h3,hln,hri])
   have l1:=blk_lt ha3
   have l2:=blk_lt hb3
   refine W.drawR (.take 0 (.take 1 (.take 2 (.take 3 (.take 4 (.take 5 (.take 6 (.take 7 (.take 8 (.take 9 (.only 10 (.take 11 .done)))))))))))) NoB mixed (by kernel_rfl) ?_
   simp (disch:=(first|omega|(simp only [qI,qJ,qK]<;>omega)|exact qL _)) only [go_sem,↓reduceIte,n0,reduceCtorEq,n1,n2,n3,n4,n5,i0,i1,i2,i3,i4,i5,i6,i7,h2,h3,hln,hri,ha3,hb3,hx1,hxs1,hxe1,q11,q12,q13,hx2,hxs2,hxe2,q21,q22,q23,cellsAt_five,Int.toNat_natCast]
   refine (hrec j hlt ok _ _ w3.drew (hc1.keep (Ext.keeps ((Upd.refl _ _).drew) _)) (hc2.keep (Ext.keeps ((Upd.refl _ _).drew) _))).mono ?_
   rintro _ w4 ⟨rfl,hE4⟩
   refine ⟨hE4,?_⟩
   have hE34:Ext w3 w4:=((Upd.refl _ _).drew).trans hE4
   simp (disch:=(first|omega|(simp only [qI,qJ,qK]<;>omega)|exact qL _)) only [go_sem,↓reduceIte,n0,reduceCtorEq,n1,n2,n3,n4,n5,i0,i1,i2,i3,i4,i5,i6,i7,h2,h3,hln,hri]
   repeat ((first|refine qA rfl ?_|apply qB|refine qC rfl ?_|apply qD|apply qE|apply qF|apply qG|apply qH);try simp (disch:=(first|omega|(simp only [qI,qJ,qK]<;>omega)|exact qL _)) only [go_sem,↓reduceIte,n0,reduceCtorEq,n1,n2,n3,n4,n5,i0,i1,i2,i3,i4,i5,i6,i7,h2,h3,hln,hri])
   refine ⟨⟨(by simp (disch:=(first|omega|(simp only [qI,qJ,qK]<;>omega)|exact qL _)) only [go_sem,↓reduceIte,n0,reduceCtorEq,n1,n2,n3,n4,n5,i0,i1,i2,i3,i4,i5,i6,i7,Holds_nil,Holds_cons,h2,h3,hln,hri]),j+1,(by simp (disch:=(first|omega|(simp only [qI,qJ,qK]<;>omega)|exact qL _)) only [go_sem,↓reduceIte,n0,reduceCtorEq,n1,n2,n3,n4,n5,i0,i1,i2,i3,i4,i5,i6,i7,hri];all_goals rfl),by omega,hE3.trans hE34,hE34.blk_some ha3 id,hE34.blk_some hb3 id⟩,?_⟩
   try simp (disch:=(first|omega|(simp only [qI,qJ,qK]<;>omega)|exact qL _)) only [go_sem,↓reduceIte,n0,reduceCtorEq,n1,n2,n3,n4,n5,i0,i1,i2,i3,i4,i5,i6,i7,hri]
   simp only [RowKit.intOf]
   omega
  ·repeat ((first|refine qA rfl ?_|apply qB|refine qC rfl ?_|apply qD|apply qE|apply qF|apply qG|apply qH);try simp (disch:=(first|omega|(simp only [qI,qJ,qK]<;>omega)|exact qL _)) only [go_sem,↓reduceIte,n0,reduceCtorEq,n1,n2,n3,n4,n5,i0,i1,i2,i3,i4,i5,i6,i7,h2,h3,hln,hri])
   exact ⟨(by simp (disch:=(first|omega|(simp only [qI,qJ,qK]<;>omega)|exact qL _)) only [go_sem,↓reduceIte,n0,reduceCtorEq,n1,n2,n3,n4,n5,i0,i1,i2,i3,i4,i5,i6,i7,Holds_nil,Holds_cons,h2,h3,hln,hri]),hE3,ha3,hb3⟩
 rintro ρ w5 ⟨⟨h2,h3,-⟩,hE5,ha5,hb5⟩
 repeat ((first|refine qA rfl ?_|apply qB|refine qC rfl ?_|apply qD|apply qE|apply qF|apply qG|apply qH);try simp (disch:=(first|omega|(simp only [qI,qJ,qK]<;>omega)|exact qL _)) only [go_sem,↓reduceIte,n0,reduceCtorEq,n1,n2,n3,n4,n5,i0,i1,i2,i3,i4,i5,i6,i7,h2,h3,ha5,hb5])
 refine W.exitJ 2 (EndQ [(2,.pointer (some ⟨w.heap.size,0,none⟩)),(3,.pointer (some ⟨w.heap.size+1,0,none⟩))] (fun w'=>Ext w w'∧blk w' w.heap.size=some (#[.int .i64 t.n,.slice xa t.s.length ya,.bool t.null,.slice pa t.l.length qa,.slice ua t.u.length va],35,(0,0))∧blk w' (w.heap.size+1)=some (#[.int .i64 t.n,.slice xb t.s.length yb,.bool t.null,.slice pb t.l.length qb,.slice ub t.u.length vb],35,(0,0))))
  (W.loop (LoopL [(2,.pointer (some ⟨w.heap.size,0,none⟩)),(3,.pointer (some ⟨w.heap.size+1,0,none⟩)),(66,.int .i64 t.u.length)] 67 (fun j w'=>j≤t.u.length∧Ext w w'∧blk w' w.heap.size=some (#[.int .i64 t.n,.slice xa t.s.length ya,.bool t.null,.slice pa t.l.length qa,.slice ua t.u.length va],35,(0,0))∧blk w' (w.heap.size+1)=some (#[.int .i64 t.n,.slice xb t.s.length yb,.bool t.null,.slice pb t.l.length qb,.slice ub t.u.length vb],35,(0,0)))) (fun ρ _=>t.u.length - (RowKit.intOf (ρ 67)).toNat) ?_ ?_) ?_
 ·exact ⟨(by simp (disch:=(first|omega|(simp only [qI,qJ,qK]<;>omega)|exact qL _)) only [go_sem,↓reduceIte,n0,reduceCtorEq,n1,n2,n3,n4,n5,i0,i1,i2,i3,i4,i5,i6,i7,Holds_nil,Holds_cons,h2,h3]),0,(by simp (disch:=(first|omega|(simp only [qI,qJ,qK]<;>omega)|exact qL _)) only [go_sem,↓reduceIte,n0,reduceCtorEq,n1,n2,n3,n4,n5,i0,i1,i2,i3,i4,i5,i6,i7,h2,h3];all_goals rfl),Nat.zero_le _,hE5,ha5,hb5⟩
 ·rintro ρ w3 ⟨⟨h2,h3,hln,-⟩,j,hri,hj,hE3,ha3,hb3⟩
  by_cases hlt:j < t.u.length
  ·obtain ⟨_,b1,o1,x1,v1,e1,k1,hx1,hlt1,hxs1,hxe1,q11,q12,q13,hv1,g1⟩:=TagsV.get (TagsV.keep hUa (hE3.keeps _)) hlt
   obtain ⟨_,b2,o2,x2,v2,e2,k2,hx2,hlt2,hxs2,hxe2,q21,q22,q23,hv2,g2⟩:=TagsV.get (TagsV.keep hUb (hE3.keeps _)) hlt
   subst e1
   subst e2
   have hdy:=hd _ (List.getElem_mem hlt)
   generalize t.u[j] = y at *
   have hsy:decide (y.2=y.2)=true:=decide_eq_true rfl
   repeat ((first|refine qA rfl ?_|apply qB|refine qC rfl ?_|apply qD|apply qE|apply qF|apply qG|apply qH);try simp (disch:=(first|omega|(simp only [qI,qJ,qK]<;>omega)|exact qL _)) only [go_sem,↓reduceIte,n0,reduceCtorEq,n1,n2,n3,n4,n5,i0,i1,i2,i3,i4,i5,i6,i7,h2,h3,hln,hri])
   have l1:=blk_lt ha3
   have l2:=blk_lt hb3
   refine W.drawO (.take 0 (.take 1 (.take 2 (.take 3 (.take 4 (.take 5 (.take 6 (.take 7 (.take 8 (.take 9 (.take 10 (.take 11 (.take 12 (.take 13 (.take 14 (.take 15 (.take 16 (.take 17 (.take 18 (.take 19 (.take 20 (.take 21 (.take 22 (.take 23 (.take 24 (.take 25 (.only 26 (.take 27 (.take 28 .done))))))))))))))))))))))))))))) 14 NoB mixed (by kernel_rfl) fun DD hDD => ?_
   simp only [Plan.pre]
   simp (disch:=(first|omega|(simp only [qI,qJ,qK]<;>omega)|exact qL _)) only [go_sem,↓reduceIte,n0,reduceCtorEq,n1,n2,n3,n4,n5,i0,i1,i2,i3,i4,i5,i6,i7,h2,h3,hln,hri,ha3,hb3,hx1,hxs1,q11,q12,hx2,hxs2,q21,q22,Int.toNat_natCast,beq_self_eq_true,bne_self_eq_false,ne_eq,not_true_eq_false,not_false_eq_true]
   rw [hDD]
   simp only [Plan.drop]
   simp (disch:=(first|omega|(simp only [qI,qJ,qK]<;>omega)|exact qL _)) only [go_sem,↓reduceIte,n0,reduceCtorEq,n1,n2,n3,n4,n5,i0,i1,i2,i3,i4,i5,i6,i7,h2,h3,hln,hri,ha3,hb3,hx1,hxs1,q11,q12,hx2,hxs2,q21,q22,Int.toNat_natCast,beq_self_eq_true,bne_self_eq_false,ne_eq,not_true_eq_false,not_false_eq_true]
   refine (Same_fn (ok:=ok) y.2 y.2 _ _ w3.drew (hv1.keep (Ext.keeps ((Upd.refl _ _).drew) _)) (hv2.keep (Ext.keeps ((Upd.refl _ _).drew) _)) (by omega)).mono ?_
   rintro _ w4 ⟨rfl,hE4⟩
   refine ⟨hE4,?_⟩
   have hE34:Ext w3 w4:=((Upd.refl _ _).drew).trans hE4
   simp (disch:=(first|omega|(simp only [qI,qJ,qK]<;>omega)|exact qL _)) only [go_sem,↓reduceIte,n0,reduceCtorEq,n1,n2,n3,n4,n5,i0,i1,i2,i3,i4,i5,i6,i7,h2,h3,hln,hri,hsy]
   repeat ((first|refine qA rfl ?_|apply qB|refine qC rfl ?_|apply qD|apply qE|apply qF|apply qG|apply qH);try simp (disch:=(first|omega|(simp only [qI,qJ,qK]<;>omega)|exact qL _)) only [go_sem,↓reduceIte,n0,reduceCtorEq,n1,n2,n3,n4,n5,i0,i1,i2,i3,i4,i5,i6,i7,h2,h3,hln,hri,hsy])
   refine ⟨⟨(by simp (disch:=(first|omega|(simp only [qI,qJ,qK]<;>omega)|exact qL _)) only [go_sem,↓reduceIte,n0,reduceCtorEq,n1,n2,n3,n4,n5,i0,i1,i2,i3,i4,i5,i6,i7,Holds_nil,Holds_cons,h2,h3,hln,hri]),j+1,(by simp (disch:=(first|omega|(simp only [qI,qJ,qK]<;>omega)|exact qL _)) only [go_sem,↓reduceIte,n0,reduceCtorEq,n1,n2,n3,n4,n5,i0,i1,i2,i3,i4,i5,i6,i7,hri];all_goals rfl),by omega,hE3.trans hE34,hE34.blk_some ha3 id,hE34.blk_some hb3 id⟩,?_⟩
   try simp (disch:=(first|omega|(simp only [qI,qJ,qK]<;>omega)|exact qL _)) only [go_sem,↓reduceIte,n0,reduceCtorEq,n1,n2,n3,n4,n5,i0,i1,i2,i3,i4,i5,i6,i7,hri]
   simp only [RowKit.intOf]
   omega
  ·repeat ((first|refine qA rfl ?_|apply qB|refine qC rfl ?_|apply qD|apply qE|apply qF|apply qG|apply qH);try simp (disch:=(first|omega|(simp only [qI,qJ,qK]<;>omega)|exact qL _)) only [go_sem,↓reduceIte,n0,reduceCtorEq,n1,n2,n3,n4,n5,i0,i1,i2,i3,i4,i5,i6,i7,h2,h3,hln,hri])
   exact ⟨(by simp (disch:=(first|omega|(simp only [qI,qJ,qK]<;>omega)|exact qL _)) only [go_sem,↓reduceIte,n0,reduceCtorEq,n1,n2,n3,n4,n5,i0,i1,i2,i3,i4,i5,i6,i7,Holds_nil,Holds_cons,h2,h3,hln,hri]),hE3,ha3,hb3⟩
 rintro ρ w6 ⟨⟨h2,h3,-⟩,hE6,ha6,hb6⟩
 repeat ((first|refine qA rfl ?_|apply qB|refine qC rfl ?_|apply qD|apply qE|apply qF|apply qG|apply qH);try simp (disch:=(first|omega|(simp only [qI,qJ,qK]<;>omega)|exact qL _)) only [go_sem,↓reduceIte,n0,reduceCtorEq,n1,n2,n3,n4,n5,i0,i1,i2,i3,i4,i5,i6,i7,h2,h3])
 all_goals exact hE6

theorem SameTree_fn {t:Tree} (h:Small 32767 t):∀ (ok:Blocks) (ca cb:List Value) (w:World),TreeC ok w t ca→TreeC ok w t cb→Fn Tryd.prog 8 #[.agg ca.toArray,.agg cb.toArray] w fun r w'=>r = .bool true∧Ext w w':=by
 induction h with
 | mk hs hl hu he hd ih=>exact SameTree_step _ hs hl hu hd ih
end Ms

