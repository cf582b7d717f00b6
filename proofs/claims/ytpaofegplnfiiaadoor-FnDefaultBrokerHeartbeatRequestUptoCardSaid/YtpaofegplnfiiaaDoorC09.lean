/- A part of the proof: see the last text. -/
import Derived.Test.YtpaofegplnfiiaaDoorC02
import Derived.Test.YtpaofegplnfiiaaDoorC03
import Derived.Test.YtpaofegplnfiiaaDoorC05
import Derived.Test.YtpaofegplnfiiaaDoorC06
import Derived.Test.YtpaofegplnfiiaaDoorC08
set_option linter.unusedSimpArgs false
set_option linter.unusedVariables false
namespace Ms
open Go

def Shr {α:Type} (r:St→α × St):Prop:=∀ st,stLen (r st).2≤stLen st
/-! ### The tags -/
/-! ### The parts -/
def okDf : Nat→List Fld→Bool
 | 0,_=>true
 | d+1,fs=>decide (fs.length≤32767) && fs.all fun f=>(!decide (f.kind=4) || decide (IntKind.i64.wrap f.df=f.df)) && (!decide (f.kind=10) && !decide (f.of=10) || okDf d f.sub)
inductive All3 {α β:Type} (R:α→β→Prop):List α→List β→Prop
 | nil:All3 R [] []
 | cons {a:α} {b:β} {l:List α} {m:List β} (h:R a b) (t:All3 R l m):All3 R (a :: l) (b :: m)
theorem goodL_of {G:List Fld→Tree→Prop} {n:Int} {s:List UInt8} {nl:Bool} {u:List TagD}:∀ {fs:List Fld} {l:List Tree} (pre:List Tree),All3 (GoodF G) fs l→GoodL G (.mk n s nl (pre++l) u) fs pre.length
 | _,_,_,.nil=>trivial
 | f :: fs,x :: l,pre,.cons h t=>by
  refine ⟨?_,?_⟩
  ·have:Tree.at (.mk n s nl (pre++x :: l) u) pre.length=x:=by simp [Tree.at,Tree.l]
   rw [this];exact h
  ·have:=goodL_of (G:=G) (n:=n) (s:=s) (nl:=nl) (u:=u) (pre++[x]) t
   simpa using this
theorem good1_num {G:List Fld→Tree→Prop} {k:Int} {sub:List Fld} {n:Int} (h:k=4→IntKind.i64.wrap n=n) (hk:k≠10):Good1 G k sub (.num n):=⟨h,by simp [Tree.num,Tree.s],fun h=>absurd h hk⟩
theorem good1_oct {G:List Fld→Tree→Prop} {k:Int} {sub:List Fld} {b:Bool} {s:List UInt8} (h:s.length≤32767) (hk:k≠10):Good1 G k sub (.oct b s):=⟨fun _=>rfl,h,fun h=>absurd h hk⟩
theorem dfP_sn : ∀ d fs,(dfP d fs).s=[]∧(dfP d fs).n=0
 | 0,_=>⟨rfl,rfl⟩
 | d+1,fs=>⟨rfl,rfl⟩
theorem Good_setNull {d:Nat} {fs:List Fld} {t:Tree} (h:GoodP d fs t) (b:Bool):GoodP d fs (t.setNull b):=by
 cases t with
 | mk n s nl l u =>
  cases d with
  | zero=>trivial
  | succ d =>
   refine ⟨?_,h.2⟩
   have key:∀ (fs:List Fld) (i:Nat),GoodL (GoodP d) (.mk n s nl l u) fs i→GoodL (GoodP d) (.mk n s b l u) fs i:=by
    intro fs
    induction fs with
    | nil=>intro i _;trivial
    | cons f fs ih=>intro i h;exact ⟨h.1,ih _ h.2⟩
   exact key fs 0 h.1
theorem dfF_good {d:Nat} {dp:List Fld→Tree} {f:Fld} (hdp:f.kind=10→GoodP d f.sub (dp f.sub)∧(dp f.sub).s=[]) (h4:f.kind=4→IntKind.i64.wrap f.df=f.df):GoodF (GoodP d) f (dfF dp f):=by
 unfold GoodF dfF
 by_cases h11:f.kind=11
 ·rw [if_pos h11,if_neg (by omega),if_neg (by omega),if_neg (by omega),if_pos h11]
  exact ⟨by simp [Tree.l],fun y hy=>by simp [Tree.l] at hy⟩
 ·rw [if_neg h11]
  by_cases h8:f.kind=8
  ·rw [if_pos h8];exact good1_oct (by simp) (by omega)
  ·rw [if_neg h8]
   by_cases h7:f.kind=7
   ·rw [if_pos h7];exact good1_oct (by rw [uuidS_len];omega) (by omega)
   ·rw [if_neg h7]
    by_cases h9:f.kind=9
    ·rw [if_pos h9];exact good1_oct (by simp) (by omega)
    ·rw [if_neg h9,if_neg h11]
     by_cases h10:f.kind=10
     ·rw [if_pos h10]
      have:=hdp h10
      refine ⟨fun h=>by omega,?_,fun _=>Good_setNull this.1 _⟩
      have e:((dp f.sub).setNull (decide (0≤f.null))).s=(dp f.sub).s:=by cases dp f.sub;rfl
      rw [e,this.2];simp
     ·rw [if_neg h10];exact good1_num h4 h10
theorem okDf_f {d:Nat} {fs:List Fld} (h:okDf (d+1) fs=true) {f:Fld} (hf:f∈fs):(f.kind=4→IntKind.i64.wrap f.df=f.df)∧(f.kind=10∨f.of=10→okDf d f.sub=true):=by
 unfold okDf at h
 rw [Bool.and_eq_true] at h
 have:=List.all_eq_true.1 h.2 f hf
 simp only [Bool.and_eq_true,Bool.or_eq_true,Bool.not_eq_true',decide_eq_false_iff_not,decide_eq_true_eq] at this
 refine ⟨fun h4=>this.1.resolve_left fun h=>h h4,fun h10=>this.2.resolve_left fun h => ?_⟩
 rcases h10 with h10|h10
 ·exact h.1 h10
 ·exact h.2 h10
theorem dfP_good : ∀ (d:Nat) (fs:List Fld),okDf d fs=true→GoodP d fs (dfP d fs)
 | 0,_,_=>trivial
 | d+1,fs,h=>by
  refine ⟨?_,by simp [dfP,Tree.u,GoodU]⟩
  have key:∀ (gs:List Fld),(∀ f∈gs,f∈fs)→All3 (GoodF (GoodP d)) gs (gs.map (dfF (dfP d))):=by
   intro gs
   induction gs with
   | nil=>intro _;exact .nil
   | cons f gs ih =>
    intro hm
    have hf:=okDf_f h (hm f (by simp))
    exact .cons (dfF_good (fun h10=>⟨dfP_good d f.sub (hf.2 (.inl h10)),(dfP_sn d f.sub).1⟩) hf.1) (ih fun g hg=>hm g (by simp [hg]))
  exact goodL_of (G:=GoodP d) [] (key fs fun _ h=>h)
theorem okDf_len {d:Nat} {fs:List Fld} (h:okDf (d+1) fs=true):fs.length≤32767:=by
 unfold okDf at h
 rw [Bool.and_eq_true,decide_eq_true_eq] at h
 exact h.1
theorem small_num (n:Int):Small 32767 (.num n):=.mk (by simp) (by simp) (by simp) (fun i h=>by simp at h) (fun x h=>by simp at h)
theorem small_oct (b:Bool) {s:List UInt8} (h:s.length≤32767):Small 32767 (.oct b s):=.mk h (by simp) (by simp) (fun i h=>by simp at h) (fun x h=>by simp at h)
theorem small_list (b:Bool) {l:List Tree} (hl:l.length≤32767) (h:∀ x∈l,Small 32767 x):Small 32767 (.mk 0 [] b l []):=.mk (by simp) hl (by simp) (fun i hi=>h _ (List.getElem_mem hi)) (fun x h=>by simp at h)
theorem tl1_small {d:Nat} {k:Int} {sub:List Fld} {x:Tree} (hg:Good1 (GoodP d) k sub x) (hp:k=10→GoodP d sub x→Small 32767 (tlP d sub x)):Small 32767 (tl1 (tlP d) k sub x):=by
 unfold tl1
 split
 ·exact small_num _
 ·split
  ·exact small_oct _ (by rw [uuidS_len];omega)
  ·split
   ·exact small_oct _ hg.2.1
   ·split
    ·refine small_oct _ ?_
     split
     ·simp
     ·exact hg.2.1
    ·split
     ·rename_i h10;exact hp h10 (hg.2.2 h10)
     ·exact small_num _
theorem tlL_len (tp:List Fld→Tree→Tree) (t:Tree):∀ fs i,(tlL tp t fs i).length=fs.length
 | [],_=>rfl
 | f :: fs,i=>by simp [tlL,tlL_len tp t fs]
theorem tlP_small : ∀ (d:Nat) (fs:List Fld) (t:Tree),okDf d fs=true→GoodP d fs t→Small 32767 (tlP d fs t)
 | 0,_,_,_,_=>.mk (by simp) (by simp) (by simp) (fun i h=>by simp at h) (fun x h=>by simp at h)
 | d+1,fs,t,ho,h=>by
  have key:∀ (gs:List Fld) (i:Nat),(∀ f∈gs,f∈fs)→GoodL (GoodP d) t gs i→∀ y∈tlL (tlP d) t gs i,Small 32767 y:=by
   intro gs
   induction gs with
   | nil=>intro i _ _ y hy;simp [tlL] at hy
   | cons f gs ih =>
    intro i hm hg y hy
    rcases List.mem_cons.1 hy with rfl|hy
    ·have hf:=(okDf_f ho (hm f (by simp))).2
     unfold tlF
     split
     ·rename_i h8
      refine small_oct _ ?_
      have h1:=(hg.1.one (by omega)).2.1
      split
      ·simp
      ·exact h1
     ·split
      ·rename_i h11
       have hl:=hg.1.listL h11 rfl
       refine small_list _ (by rw [List.length_map];exact hl.1) fun x hx => ?_
       obtain ⟨z,hz,rfl⟩:=List.mem_map.1 hx
       exact tl1_small (hl.2 z hz) fun h10 hgz=>tlP_small d f.sub z (hf (.inr h10)) hgz
      ·rename_i h11
       exact tl1_small (hg.1.one h11) fun h10 hgz=>tlP_small d f.sub _ (hf (.inl h10)) hgz
    ·exact ih (i+1) (fun g hg=>hm g (by simp [hg])) hg.2 y hy
  have hu:=h.2
  exact .mk (by simp) (by rw [tlL_len];exact okDf_len ho) (by rw [(sortT_perm t.u).length_eq];exact hu.1)
   (fun i hi=>key fs 0 (fun _ h=>h) h.1 _ (List.getElem_mem hi)) (fun x hx=>hu.2.2 x ((sortT_perm t.u).mem_iff.1 hx))
theorem Small.lists {t:Tree} (h:Small 32767 t):Lists t:=by
 induction h with
 | mk hs hl hu he hd ih=>exact .mk hl hu ih

section
variable {pw : List Fld→Int→Bool→Tree→List UInt8} {pc:List Fld→Tree→Tree} {P:List Fld→Tree→Prop} {v:Int} {flex:Bool}
end

inductive N64 : Tree→Prop
 | mk {n:Int} {s:List UInt8} {null:Bool} {l:List Tree} {u:List TagD} (hn:IntKind.i64.wrap n=n) (he:∀ x∈l,N64 x):N64 (.mk n s null l u)
theorem N64.n {t:Tree} (h:N64 t):IntKind.i64.wrap t.n=t.n:=by cases h;assumption
theorem N64.l {t:Tree} (h:N64 t):∀ x∈t.l,N64 x:=by cases h;assumption
theorem N64.zero : N64 .zero:=.mk (by decide) (fun _ h=>by cases h)
theorem N64.at {t:Tree} (h:N64 t) (i:Nat):N64 (t.at i):=by
 unfold Tree.at
 rcases Nat.lt_or_ge i t.l.length with hi|hi
 ·rw [List.getD_eq_getElem?_getD,List.getElem?_eq_getElem hi];exact h.l _ (List.getElem_mem hi)
 ·rw [List.getD_eq_getElem?_getD,List.getElem?_eq_none hi];exact N64.zero
theorem TreeC.n64 {ok:Blocks} {w:World} {t:Tree} {cs:List Value} (h:TreeC ok w t cs):N64 t:=by
 induction h with
 | mk hn hS hL hl he hU ih =>
  refine .mk hn fun x hx => ?_
  obtain ⟨i,hi,rfl⟩:=List.getElem_of_mem hx
  exact ih i hi (by omega)

/-! ### What is read is of no great length -/
theorem i64_idem (n:Int):IntKind.i64.wrap (IntKind.i64.wrap n)=IntKind.i64.wrap n:=by
 have : -9223372036854775808≤IntKind.i64.wrap n∧IntKind.i64.wrap n≤9223372036854775807:=by
  unfold IntKind.wrap;simp [IntKind.bits,IntKind.signed];split<;>omega
 exact i64_wrap (by omega)
theorem cn1_good {d:Nat} {v:Int} {flex:Bool} (k:Int) (sub:List Fld) (null:Bool) (x:Tree) (hp:k=10→GoodP d sub (cnP d v flex sub x)):Good1 (GoodP d) k sub (cn1 (cnP d v flex) k sub null x):=by
 unfold cn1
 by_cases h0:k=0
 ·rw [if_pos h0];exact good1_num (by omega) (by omega)
 rw [if_neg h0]
 by_cases h7:k=7
 ·rw [if_pos h7];exact good1_oct (by rw [uuidS_len];omega) (by omega)
 rw [if_neg h7]
 by_cases h8:k=8∨k=9
 ·rw [if_pos h8]
  refine good1_oct ?_ (by omega)
  split
  ·simp
  ·simp only [wholeS,List.length_take];omega
 rw [if_neg h8]
 by_cases h10:k=10
 ·rw [if_pos h10]
  refine ⟨fun h=>by omega,?_,fun _=>hp h10⟩
  cases d<;>simp [cnP,Tree.zero,Tree.s]
 rw [if_neg h10]
 refine good1_num (fun h4 => ?_) h10
 subst h4
 exact i64_idem _
theorem cnF_good {d:Nat} {v:Int} {flex:Bool} (f:Fld) (x:Tree) (hp:f.kind=10∨f.of=10→∀ y,GoodP d f.sub (cnP d v flex f.sub y)):GoodF (GoodP d) f (cnF (cnP d v flex) v f x):=by
 unfold GoodF cnF
 by_cases h11:f.kind=11
 ·rw [if_pos h11,if_pos h11]
  simp only [Tree.l]
  split
  ·exact ⟨by simp,fun y hy=>by cases hy⟩
  ·refine ⟨by simp only [List.length_map,thingsS,List.length_take];omega,fun y hy => ?_⟩
   obtain ⟨z,_,rfl⟩:=List.mem_map.1 hy
   exact cn1_good _ _ _ _ fun h=>hp (.inr h) z
 ·rw [if_neg h11,if_neg h11]
  exact cn1_good _ _ _ _ fun h=>hp (.inl h) x
theorem cnL_all3 {R:Fld→Tree→Prop} {pc:List Fld→Tree→Tree} {dp:List Fld→Tree} {v:Int} {t:Tree}:∀ (fs:List Fld) (i:Nat),(∀ f∈fs,(∀ x,R f (cnF pc v f x))∧R f (dfF dp f))→All3 R fs (cnL pc dp v t fs i)
 | [],_,_=>.nil
 | f :: fs,i,h=>.cons (by split;exact (h f (by simp)).1 _;exact (h f (by simp)).2) (cnL_all3 fs (i+1) fun g hg=>h g (by simp [hg]))
theorem cnP_good (v:Int) (flex:Bool):∀ (d:Nat) (fs:List Fld) (t:Tree),okDf d fs=true→GoodP d fs (cnP d v flex fs t)
 | 0,_,_,_=>trivial
 | d+1,fs,t,h=>by
  refine ⟨?_,?_⟩
  ·have:=goodL_of (G:=GoodP d) (n:=0) (s:=[]) (nl:=false) (u:=if flex=true then (unknownS fs t.u).map fun u=>(u.1,wholeS u.2) else []) [] (cnL_all3 (R:=GoodF (GoodP d)) (pc:=cnP d v flex) (dp:=dfP d) (v:=v) (t:=t) fs 0 fun f hf=>by
    obtain ⟨h4,hs⟩:=okDf_f h hf
    exact ⟨fun x=>cnF_good f x fun hk y=>cnP_good v flex d f.sub y (hs hk),dfF_good (fun hk=>⟨dfP_good d f.sub (hs (.inl hk)),(dfP_sn d f.sub).1⟩) h4⟩)
   exact this
  ·show GoodU (if flex=true then (unknownS fs t.u).map fun u=>(u.1,wholeS u.2) else [])
   split
   ·refine ⟨by rw [List.length_map];exact unknownS_len' fs t.u,?_,fun y hy => ?_⟩
    ·rw [List.map_map]
     have h1:=(unknownS_spec fs t.u).1
     have:(unknownS fs t.u).map ((fun x=>x.1) ∘ fun u=>(u.1,wholeS u.2))=(unknownS fs t.u).map (·.1):=rfl
     rw [this]
     exact List.nodup_iff_pairwise_ne.2 (List.pairwise_map.2 (h1.imp fun h=>by omega))
    ·obtain ⟨z,_,rfl⟩:=List.mem_map.1 hy
     simp only [wholeS,List.length_take];omega
   ·exact ⟨by simp,by simp,fun y hy=>by cases hy⟩

/-! ### It is told as it was -/
theorem tlL_get (tp:List Fld→Tree→Tree) (t:Tree):∀ (fs:List Fld) (i k:Nat) (h:k < fs.length),(tlL tp t fs i).getD k .zero=tlF tp fs[k] (t.at (i+k))
 | f :: fs,i,0,h=>by simp [tlL]
 | f :: fs,i,k+1,h=>by
  have:=tlL_get tp t fs (i+1) k (by simpa using h)
  simp only [tlL,List.getD_cons_succ,List.getElem_cons_succ]
  rw [this,show i+1+k=i+(k+1) by omega]
def okT : List Fld→Bool
 | fs=>fs.all fun f=>decide (0≤f.null→8≤f.kind)
def okTs : Nat→List Fld→Bool
 | 0,_=>true
 | d+1,fs=>okT fs && fs.all fun f=>okTs d f.sub
theorem mod2_if (n:Int):(if n % 2=1 then (1:Int) else 0)=n % 2:=by split<;>omega
theorem Tree.at_mk (n:Int) (s:List UInt8) (b:Bool) (l:List Tree) (u:List TagD) (i:Nat):(Tree.mk n s b l u).at i=l.getD i .zero:=rfl
section
variable {d : Nat} {v:Int} {flex:Bool}
end

def tagAt : List Fld→Nat→Nat→Option (Nat × Fld)
 | [],_,_=>none
 | f :: fs,i,k=>if f.tag=k then some (i,f) else tagAt fs (i+1) k
def tagX (fs:List Fld) (k:Nat):Option (Nat × Fld):=tagAt fs 0 k
theorem tagAt_none {k:Nat}:∀ {fs:List Fld} {i:Nat},(∀ f∈fs,f.tag≠k)→tagAt fs i k=none
 | [],_,_=>rfl
 | f :: fs,i,h=>by
  rw [tagAt,if_neg (h f (by simp))]
  exact tagAt_none fun g hg=>h g (by simp [hg])
theorem tagX_none {fs:List Fld} {k:Nat} (h:∀ f∈fs,f.tag≠k):tagX fs k=none:=tagAt_none h
theorem tag_known {fs:List Fld} {k:Nat} (h:knownS fs≤k):∀ f∈fs,f.tag≠k:=by
 have:∀ (fs:List Fld) (n:Nat),n≤fs.foldl (fun n f=>if 0≤f.tag then max n (f.tag.toNat+1) else n) n∧∀ f∈fs,0≤f.tag→f.tag.toNat+1≤fs.foldl (fun n f=>if 0≤f.tag then max n (f.tag.toNat+1) else n) n:=by
  intro fs
  induction fs with
  | nil=>intro n;exact ⟨Nat.le_refl _,fun f h=>by cases h⟩
  | cons f fs ih =>
   intro n
   rw [List.foldl_cons]
   obtain ⟨h1,h2⟩:=ih (if 0≤f.tag then max n (f.tag.toNat+1) else n)
   refine ⟨?_,fun g hg h0 => ?_⟩
   ·refine Nat.le_trans ?_ h1
    split<;>omega
   ·rcases List.mem_cons.1 hg with rfl|hg
    ·rw [if_pos h0] at h1 ⊢
     omega
    ·exact h2 g hg h0
 intro f hf e
 have h2:=(this fs 0).2 f hf (by omega)
 have h3:fs.foldl (fun n f=>if 0≤f.tag then max n (f.tag.toNat+1) else n) 0≤k:=h
 omega

section
variable (pt : List Fld→St→Tree × St) (v:Int) (flex:Bool) (fs:List Fld)
def rdTg : Nat→List Tree→List TagD→St→(List Tree × List TagD) × St
 | 0,xs,u,st=>((xs,u),st)
 | n+1,xs,u,st =>
  match tagX fs (rdUv st).1 with
  | some p =>
   if (rdF pt v flex p.2 (some (rdSpan (rdUv (rdUv st).2).1 (rdUv (rdUv st).2).2).1)).2=none then ((xs,u),none)
   else rdTg n (xs.set p.1 (rdF pt v flex p.2 (some (rdSpan (rdUv (rdUv st).2).1 (rdUv (rdUv st).2).2).1)).1) u (rdSpan (rdUv (rdUv st).2).1 (rdUv (rdUv st).2).2).2
  | none=>rdTg n xs (rdTag u st).1 (rdTag u st).2
def rdTgs (xs:List Tree) (st:St):(List Tree × List TagD) × St:=rdTg pt v flex fs (rdUv st).1 xs [] (rdUv st).2
end
def rdM (d:Nat) (v:Int) (flex:Bool) (fs:List Fld) (st:St):Tree × St :=
 if flex=true then
  (.mk 0 [] false (rdTgs (rdP d v true) v true fs (rdL (rdP d v true) (dfP d) v true fs st).1 (rdL (rdP d v true) (dfP d) v true fs st).2).1.1 (rdTgs (rdP d v true) v true fs (rdL (rdP d v true) (dfP d) v true fs st).1 (rdL (rdP d v true) (dfP d) v true fs st).2).1.2,
   (rdTgs (rdP d v true) v true fs (rdL (rdP d v true) (dfP d) v true fs st).1 (rdL (rdP d v true) (dfP d) v true fs st).2).2)
 else rdP (d+1) v false fs st
theorem rdM_t {d:Nat} {v:Int} {fs:List Fld} {st s' e:St} {xs ys:List Tree} {u:List TagD} (h:rdL (rdP d v true) (dfP d) v true fs st=(xs,s')) (hg:rdTgs (rdP d v true) v true fs xs s'=((ys,u),e)):rdM d v true fs st=(.mk 0 [] false ys u,e):=by
 unfold rdM
 rw [if_pos rfl,h]
 simp only [hg]
theorem rdM_f {d:Nat} {v:Int} {fs:List Fld} {st:St}:rdM d v false fs st=rdP (d+1) v false fs st:=by
 unfold rdM;rw [if_neg (by decide)]
theorem rdM_bad {d:Nat} {v:Int} {flex:Bool} {fs:List Fld} {st:St} (h:(rdL (rdP d v flex) (dfP d) v flex fs st).2=none):(rdM d v flex fs st).2=none:=by
 cases flex with
 | false=>rw [rdM_f];exact rdP_bad h
 | true =>
  unfold rdM
  rw [if_pos rfl]
  simp only [h]
  rfl
theorem rdM_badT {d:Nat} {v:Int} {fs:List Fld} {st s':St} {xs:List Tree} (h:rdL (rdP d v true) (dfP d) v true fs st=(xs,s')) (hb:(rdTgs (rdP d v true) v true fs xs s').2=none):(rdM d v true fs st).2=none:=by
 unfold rdM
 rw [if_pos rfl,h]
 exact hb
section
variable {pt : List Fld→St→Tree × St} {v:Int} {flex:Bool} {fs:List Fld} {xs:List Tree} {u:List TagD} {st:St} {n k i:Nat} {f:Fld}
theorem rdTg_known {x:Tree} {s':St} (hk:(rdUv st).1=k) (h:tagX fs k=some (i,f)) (hx:rdF pt v flex f (some (rdSpan (rdUv (rdUv st).2).1 (rdUv (rdUv st).2).2).1)=(x,s')) (hs:s'≠none) :
  rdTg pt v flex fs (n+1) xs u st=rdTg pt v flex fs n (xs.set i x) u (rdSpan (rdUv (rdUv st).2).1 (rdUv (rdUv st).2).2).2:=by
 rw [rdTg,hk,h]
 simp only [hx]
 rw [if_neg hs]
theorem rdTg_bad (hk:(rdUv st).1=k) (h:tagX fs k=some (i,f)) (hx:(rdF pt v flex f (some (rdSpan (rdUv (rdUv st).2).1 (rdUv (rdUv st).2).2).1)).2=none) :
  (rdTg pt v flex fs (n+1) xs u st).2=none:=by
 rw [rdTg,hk,h]
 simp only
 rw [if_pos hx]
theorem rdTg_unk (h:tagX fs (rdUv st).1=none):rdTg pt v flex fs (n+1) xs u st=rdTg pt v flex fs n xs (tagPut u ((rdUv st).1,(rdSpan (rdUv (rdUv st).2).1 (rdUv (rdUv st).2).2).1)) (rdSpan (rdUv (rdUv st).2).1 (rdUv (rdUv st).2).2).2:=by
 rw [rdTg,h]
 rfl
theorem rdTg_one {x:Tree} {o r:List UInt8} (h:tagX fs k=some (i,f)) (hk:k < 4294967296) (ho:o.length < 4294967296) (hx:rdF pt v flex f (some o)=(x,some [])) :
  rdTg pt v flex fs (n+1) xs u (some (oneTag (k,o)++r))=rdTg pt v flex fs n (xs.set i x) u (some r):=by
 have e:oneTag (k,o)++r=uvarS k++(uvarS o.length++(o++r)):=by simp [oneTag]
 have h1:rdUv (some (oneTag (k,o)++r))=(k,some (uvarS o.length++(o++r))):=by rw [e,rdUv_uvar _ _ hk]
 have h2:rdUv (some (uvarS o.length++(o++r)))=(o.length,some (o++r)):=rdUv_uvar _ _ ho
 have h3:rdSpan ((rdUv (rdUv (some (oneTag (k,o)++r))).2).1:Nat) (rdUv (rdUv (some (oneTag (k,o)++r))).2).2=(o,some r):=by
  rw [h1];simp only [h2];exact rdSpan_app o r
 rw [rdTg_known (k:=k) (x:=x) (s':=some []) (by rw [h1]) h (by rw [h3];exact hx) (by simp),h3]
theorem rdTg_unks : ∀ (l acc:List TagD) (r:List UInt8),(∀ x∈l,tagX fs x.1=none)→(∀ x∈l,x.1 < 4294967296)→(∀ x∈l,∀ y∈acc,y.1≠x.1)→l.Pairwise (fun a b=>a.1≠b.1) →
  rdTg pt v flex fs l.length xs acc (some (l.flatMap unkT++r))=((xs,acc++l.map fun u=>(u.1,wholeS u.2)),some r)
 | [],acc,r,_,_,_,_=>by simp [rdTg]
 | x :: l,acc,r,h0,h1,h2,h3=>by
  rw [List.length_cons,List.flatMap_cons,List.append_assoc]
  have hu:(rdUv (some (unkT x++(l.flatMap unkT++r)))).1=x.1:=by
   have e:unkT x++(l.flatMap unkT++r)=uvarS x.1++(uvarS (wholeS x.2).length++(wholeS x.2++(l.flatMap unkT++r))):=by simp [unkT,oneTag]
   rw [e,rdUv_uvar _ _ (h1 x (by simp))]
  rw [rdTg,hu,h0 x (by simp)]
  simp only
  rw [rdTag_unk acc x _ (h1 x (by simp))]
  have hn:tagPut acc (x.1,wholeS x.2)=acc++[(x.1,wholeS x.2)]:=tagPut_new fun z hz=>h2 x (by simp) z hz
  simp only [hn]
  rw [List.pairwise_cons] at h3
  rw [rdTg_unks l _ r (fun y hy=>h0 y (by simp [hy])) (fun y hy=>h1 y (by simp [hy])) (fun y hy z hz=>by
   rcases List.mem_append.1 hz with hz|hz
   ·exact h2 y (by simp [hy]) z hz
   ·simp only [List.mem_singleton] at hz;rw [hz];exact h3.1 y hy) h3.2]
  simp
end

/-! ### What was written is read again -/
def tgO (pw:List Fld→Int→Bool→Tree→List UInt8) (D:Nat) (v:Int) (flex:Bool) (t:Tree) (p:Nat × Nat × Fld):List TagD:=if usualS D p.2.2 (t.at p.2.1)=false then [(p.1,fieldS pw p.2.2 v flex (t.at p.2.1))] else []
def setT (pc:List Fld→Tree→Tree) (D:Nat) (v:Int) (t:Tree) (ts:List (Nat × Nat × Fld)) (xs:List Tree):List Tree:=ts.foldl (fun xs p=>if usualS D p.2.2 (t.at p.2.1)=false then xs.set p.2.1 (cnF pc v p.2.2 (t.at p.2.1)) else xs) xs
theorem rdTg_tags {pr:List Fld→St→Tree × St} {pw:List Fld→Int→Bool→Tree→List UInt8} {pc:List Fld→Tree→Tree} {D:Nat} {v:Int} {flex:Bool} {fs:List Fld} {t:Tree}:∀ (ts:List (Nat × Nat × Fld)) (n:Nat) (xs:List Tree) (u:List TagD) (r:List UInt8),
  (∀ p∈ts,tagX fs p.1=some p.2∧p.1 < 4294967296∧(fieldS pw p.2.2 v flex (t.at p.2.1)).length < 4294967296∧rdF pr v flex p.2.2 (some (fieldS pw p.2.2 v flex (t.at p.2.1)))=(cnF pc v p.2.2 (t.at p.2.1),some [])) →
  rdTg pr v flex fs ((ts.flatMap (tgO pw D v flex t)).length+n) xs u (some ((ts.flatMap (tgO pw D v flex t)).flatMap oneTag++r))=rdTg pr v flex fs n (setT pc D v t ts xs) u (some r)
 | [],n,xs,u,r,_=>by simp [setT]
 | p :: ts,n,xs,u,r,h=>by
  obtain ⟨h1,h2,h3,h4⟩:=h p (by simp)
  have ih:=fun xs=>rdTg_tags (pr:=pr) (pw:=pw) (pc:=pc) (D:=D) ts n xs u r fun q hq=>h q (by simp [hq])
  rw [List.flatMap_cons]
  by_cases hu:usualS D p.2.2 (t.at p.2.1)=false
  ·have e:tgO pw D v flex t p=[(p.1,fieldS pw p.2.2 v flex (t.at p.2.1))]:=by unfold tgO;rw [if_pos hu]
   rw [e,List.length_append,List.flatMap_append,List.append_assoc]
   simp only [List.length_cons,List.length_nil,List.flatMap_cons,List.flatMap_nil,List.append_nil]
   rw [show 0+1+(ts.flatMap (tgO pw D v flex t)).length+n=((ts.flatMap (tgO pw D v flex t)).length+n)+1 by omega]
   rw [rdTg_one h1 h2 h3 h4,ih]
   simp only [setT,List.foldl_cons]
   rw [if_pos hu]
  ·have e:tgO pw D v flex t p=[]:=by unfold tgO;rw [if_neg hu]
   rw [e,List.nil_append,ih]
   simp only [setT,List.foldl_cons]
   rw [if_neg hu]

def cnT (pt:List Fld→Tree→Tree) (dp:List Fld→Tree) (D:Nat) (v:Int) (flex:Bool) (t:Tree):List Fld→Nat→List Tree
 | [],_=>[]
 | f :: fs,i=>(if liveS D v flex f (t.at i)=true then cnF pt v f (t.at i) else dfF dp f) :: cnT pt dp D v flex t fs (i+1)
def cnM (d:Nat) (v:Int) (flex:Bool) (fs:List Fld) (t:Tree):Tree:=.mk 0 [] false (cnT (cnP d v flex) (dfP d) (d+1) v flex t fs 0) (if flex=true then (unknownS fs t.u).map fun u=>(u.1,wholeS u.2) else [])
theorem cnT_f (pc:List Fld→Tree→Tree) (dp:List Fld→Tree) (D:Nat) (v:Int) (t:Tree):∀ (fs:List Fld) (i:Nat),cnT pc dp D v false t fs i=cnL pc dp v t fs i
 | [],_=>rfl
 | f :: fs,i=>by
  rw [cnT,cnL,cnT_f pc dp D v t fs (i+1)]
  congr 1
  simp [liveS]
def okRT (d:Nat) (v:Int) (flex:Bool) (fs:List Fld):Bool :=
 fs.all fun f=>decide ((f.kind=11∨f.kind=0∨numK f.kind∨(7≤f.kind∧f.kind≤10))∧(f.of=0∨numK f.of∨(7≤f.of∧f.of≤10))∧¬ (f.kind=10∧0≤f.null)) && okR d v flex f.sub && (wideS v flex f.sub || !(hasS f v) || decide (¬ (f.kind=10∨(f.kind=11∧f.of=10)))) && (decide (f.tag < 0) || wideS v flex f.sub || decide (¬ (f.kind=10∨(f.kind=11∧f.of=10))))
theorem okRT_el {d:Nat} {v:Int} {flex:Bool} {fs:List Fld} (h:okRT d v flex fs=true) {f:Fld} (hf:f∈fs) :
  (f.kind=11∨f.kind=0∨numK f.kind∨(7≤f.kind∧f.kind≤10))∧(f.of=0∨numK f.of∨(7≤f.of∧f.of≤10))∧¬ (f.kind=10∧0≤f.null)∧okR d v flex f.sub=true∧(hasS f v=true∨0≤f.tag→(f.kind=10∨(f.kind=11∧f.of=10))→wideS v flex f.sub=true):=by
 simp only [okRT,List.all_eq_true] at h
 have:=h f hf
 rw [Bool.and_eq_true,Bool.and_eq_true,Bool.and_eq_true,decide_eq_true_eq] at this
 obtain ⟨⟨⟨⟨h2,h3,h4⟩,h5⟩,h6⟩,h7⟩:=this
 refine ⟨h2,h3,h4,h5,fun h8 h9 => ?_⟩
 simp only [Bool.or_eq_true,decide_eq_true_eq,Bool.not_eq_true'] at h6 h7
 rcases h8 with h8|h8
 ·rcases h6 with (h6|h6)|h6
  ·exact h6
  ·rw [h8] at h6;cases h6
  ·exact absurd h9 h6
 ·rcases h7 with (h7|h7)|h7
  ·omega
  ·exact h7
  ·exact absurd h9 h7
theorem rdF_partT {d:Nat} {v:Int} {flex:Bool} {fs:List Fld} {N:Nat} {t:Tree} (h:okRT d v flex fs=true) (hs:Sized N t) {f:Fld} (hf:f∈fs) (hh:hasS f v=true∨0≤f.tag) (i:Nat) (r:List UInt8) :
  rdF (rdP (d+1) v flex) v flex f (some (fieldS (partS (d+1)) f v flex (t.at i)++r))=(cnF (cnP (d+1) v flex) v f (t.at i),some r):=by
 obtain ⟨g2,g3,g4,g5,g6⟩:=okRT_el h hf
 have sub:∀ x,(f.kind=10∧x=t.at i)∨(f.kind=11∧f.of=10∧x∈(t.at i).l)→∃ M,Sized M x:=by
  intro x hx
  have ha:=hs.at i
  rcases hx with ⟨_,rfl⟩|⟨_,_,hx⟩
  ·exact ⟨_,ha⟩
  ·obtain ⟨k,hk,rfl⟩:=List.getElem_of_mem hx
   exact ha.el hk
 refine rdF_field f (t.at i) r g2 g3 g4 (fun x hx r => ?_) (fun h11 h10 x hx => ?_)
 ·obtain ⟨M,hM⟩:=sub x hx
  exact (rdP_part v flex d f.sub M x g5 hM).1 r
 ·obtain ⟨M,hM⟩:=sub x (.inr ⟨h11,h10,hx⟩)
  exact (rdP_part v flex d f.sub M x g5 hM).2 (g6 hh (.inr ⟨h11,h10⟩))
theorem rdM_part {d:Nat} {v:Int} {flex:Bool} {fs:List Fld} {N:Nat} {t:Tree} (h:okRT d v flex fs=true) (hs:Sized N t) (ts:List (Nat × Nat × Fld))
  (hts:tagsS (partS (d+1)) (d+2) fs v true t=ts.flatMap (tgO (partS (d+1)) (d+2) v true t)) (hset:setT (cnP (d+1) v true) (d+2) v t ts (cnL (cnP (d+1) v true) (dfP (d+1)) v t fs 0)=cnT (cnP (d+1) v true) (dfP (d+1)) (d+2) v true t fs 0)
  (htf:∀ p∈ts,tagX fs p.1=some p.2∧p.1 < 4294967296∧p.2.2∈fs∧0≤p.2.2.tag∧(fieldS (partS (d+1)) p.2.2 v true (t.at p.2.1)).length < 4294967296) (hl:ts.length≤1000) :
  rdM (d+1) v flex fs (some (partS (d+2) fs v flex t))=(cnM (d+1) v flex fs t,some []):=by
 have hu:∀ x∈t.u,x.1 < 4294967296:=by
  cases hs with
  | mk ns hl he hk hN=>exact hk
 have hp:=fun r=>rdL_plain (pr:=rdP (d+1) v flex) (pw:=partS (d+1)) (pc:=cnP (d+1) v flex) (flex:=flex) (dfP (d+1)) t fs 0 r fun f hf hh i r=>rdF_partT h hs hf (.inl hh) i r
 rw [partS_eq]
 unfold partT
 rw [plainS_L]
 cases flex with
 | false =>
  rw [if_neg (by decide),rdM_f,rdP,if_neg (by decide)]
  have:=hp []
  rw [List.append_nil] at this
  rw [this]
  unfold cnM
  rw [cnT_f,if_neg (by decide)]
 | true =>
  rw [if_pos rfl,hts]
  have hun:=unknownS_spec fs t.u
  have hul:=unknownS_len' fs t.u
  have htl:(ts.flatMap (tgO (partS (d+1)) (d+2) v true t)).length≤ts.length:=by
   have:∀ l:List (Nat × Nat × Fld),(l.flatMap (tgO (partS (d+1)) (d+2) v true t)).length≤l.length:=by
    intro l
    induction l with
    | nil=>simp
    | cons p l ih =>
     rw [List.flatMap_cons,List.length_append,List.length_cons]
     have:(tgO (partS (d+1)) (d+2) v true t p).length≤1:=by unfold tgO;split<;>simp
     omega
   exact this ts
  refine rdM_t (hp _) ?_
  unfold rdTgs
  rw [rdUv_uvar _ _ (by omega)]
  simp only
  rw [rdTg_tags (pr:=rdP (d+1) v true) (pc:=cnP (d+1) v true) ts _ _ _ _ fun p hp => ?_]
  ·rw [hset]
   have:=rdTg_unks (pt:=rdP (d+1) v true) (v:=v) (flex:=true) (fs:=fs) (xs:=cnT (cnP (d+1) v true) (dfP (d+1)) (d+2) v true t fs 0) (unknownS fs t.u) [] [] (fun x hx=>tagX_none (tag_known (hun.2 x hx).2)) (fun x hx=>hu x (hun.2 x hx).1) (fun _ _ _ h=>by cases h) (hun.1.imp fun h=>by omega)
   rw [List.append_nil,List.nil_append] at this
   rw [this]
   simp
  ·obtain ⟨h1,h2,h3,h4,h5⟩:=htf p hp
   have h6:=rdF_partT h hs h3 (.inr h4) p.2.1 []
   rw [List.append_nil] at h6
   exact ⟨h1,h2,h5,h6⟩
theorem cnT_all3 {R:Fld→Tree→Prop} {pc:List Fld→Tree→Tree} {dp:List Fld→Tree} {D:Nat} {v:Int} {flex:Bool} {t:Tree}:∀ (fs:List Fld) (i:Nat),(∀ f∈fs,(∀ x,R f (cnF pc v f x))∧R f (dfF dp f))→All3 R fs (cnT pc dp D v flex t fs i)
 | [],_,_=>.nil
 | f :: fs,i,h=>.cons (by split;exact (h f (by simp)).1 _;exact (h f (by simp)).2) (cnT_all3 fs (i+1) fun g hg=>h g (by simp [hg]))
theorem cnM_good (v:Int) (flex:Bool) (d:Nat) (fs:List Fld) (t:Tree) (h:okDf (d+1) fs=true):GoodP (d+1) fs (cnM d v flex fs t):=by
 refine ⟨?_,(cnP_good v flex (d+1) fs t h).2⟩
 ·have:=goodL_of (G:=GoodP d) (n:=0) (s:=[]) (nl:=false) (u:=if flex=true then (unknownS fs t.u).map fun u=>(u.1,wholeS u.2) else []) [] (cnT_all3 (R:=GoodF (GoodP d)) (pc:=cnP d v flex) (dp:=dfP d) (D:=d+1) (v:=v) (flex:=flex) (t:=t) fs 0 fun f hf=>by
   obtain ⟨h4,hs⟩:=okDf_f h hf
   exact ⟨fun x=>cnF_good f x fun hk y=>cnP_good v flex d f.sub y (hs hk),dfF_good (fun hk=>⟨dfP_good d f.sub (hs (.inl hk)),(dfP_sn d f.sub).1⟩) h4⟩)
  exact this
def LoopT (l:List (Nat × Value)) (ri:Nat) (I:Nat→World→Prop) (ρ:Regs) (w:World):Prop:=Holds l ρ∧∃ j:Nat,ρ ri = .int .u32 j∧I j w
theorem rdL_tg {pt:List Fld→St→Tree × St} {dp:List Fld→Tree} {v:Int} {flex:Bool} {f:Fld} {fs:List Fld} {s:St} (h:0≤f.tag):rdL pt dp v flex (f :: fs) s=(dfF dp f :: (rdL pt dp v flex fs s).1,(rdL pt dp v flex fs s).2):=by
 rw [rdL,if_neg (fun h'=>by omega)]
theorem errV_some {ev:Value} {st:St} (h:st≠none):errV ev st = .nilIface:=by
 unfold errV
 cases st with
 | none=>exact absurd rfl h
 | some x=>rfl
def tagOnce (fs:List Fld):Nat→List Nat→St→Prop
 | 0,_,_=>True
 | n+1,ks,st=>(tagX fs (rdUv st).1≠none→(rdUv st).1∉ks)∧tagOnce fs n ((rdUv st).1 :: ks) (rdSpan (rdUv (rdUv st).2).1 (rdUv (rdUv st).2).2).2
def onceM (d:Nat) (v:Int) (fs:List Fld) (st:St):Prop:=∀ xs s',rdL (rdP d v true) (dfP d) v true fs st=(xs,s')→tagOnce fs (rdUv s').1 [] (rdUv s').2
theorem tag_read {k:Nat} {o r:List UInt8} (hk:k < 4294967296) (ho:o.length < 4294967296) :
  (rdUv (some (oneTag (k,o)++r))).1=k∧rdSpan ((rdUv (rdUv (some (oneTag (k,o)++r))).2).1:Nat) (rdUv (rdUv (some (oneTag (k,o)++r))).2).2=(o,some r):=by
 have e:oneTag (k,o)++r=uvarS k++(uvarS o.length++(o++r)):=by simp [oneTag]
 have h1:rdUv (some (oneTag (k,o)++r))=(k,some (uvarS o.length++(o++r))):=by rw [e,rdUv_uvar _ _ hk]
 have h2:rdUv (some (uvarS o.length++(o++r)))=(o.length,some (o++r)):=rdUv_uvar _ _ ho
 rw [h1]
 simp only [h2]
 exact ⟨trivial,rdSpan_app o r⟩
theorem once_unks {fs:List Fld}:∀ (l:List TagD) (ks:List Nat) (r:List UInt8),(∀ x∈l,tagX fs x.1=none)→(∀ x∈l,x.1 < 4294967296)→tagOnce fs l.length ks (some (l.flatMap unkT++r))
 | [],_,_,_,_=>trivial
 | x :: l,ks,r,h0,h1=>by
  have hw:=wholeS_len x.2
  obtain ⟨e1,e2⟩:=tag_read (k:=x.1) (o:=wholeS x.2) (r:=l.flatMap unkT++r) (h1 x (by simp)) (by omega)
  rw [List.length_cons,List.flatMap_cons,List.append_assoc]
  rw [show unkT x=oneTag (x.1,wholeS x.2) from rfl]
  refine ⟨fun h=>absurd (by rw [e1];exact h0 x (by simp)) h,?_⟩
  rw [e2]
  exact once_unks l _ r (fun y hy=>h0 y (by simp [hy])) (fun y hy=>h1 y (by simp [hy]))
theorem once_tags {pw:List Fld→Int→Bool→Tree→List UInt8} {D:Nat} {v:Int} {flex:Bool} {fs:List Fld} {t:Tree} {n:Nat} {r:List UInt8} (hr:∀ ks,tagOnce fs n ks (some r)):∀ (ts:List (Nat × Nat × Fld)) (ks:List Nat),
  (∀ p∈ts,p.1 < 4294967296∧(fieldS pw p.2.2 v flex (t.at p.2.1)).length < 4294967296)→(∀ p∈ts,p.1∉ks)→ts.Pairwise (fun a b=>a.1≠b.1) →
  tagOnce fs ((ts.flatMap (tgO pw D v flex t)).length+n) ks (some ((ts.flatMap (tgO pw D v flex t)).flatMap oneTag++r))
 | [],ks,_,_,_=>by simpa using hr ks
 | p :: ts,ks,h,hks,hp=>by
  rw [List.pairwise_cons] at hp
  obtain ⟨h1,h2⟩:=h p (by simp)
  rw [List.flatMap_cons]
  by_cases hu:usualS D p.2.2 (t.at p.2.1)=false
  ·have e:tgO pw D v flex t p=[(p.1,fieldS pw p.2.2 v flex (t.at p.2.1))]:=by unfold tgO;rw [if_pos hu]
   obtain ⟨e1,e2⟩:=tag_read (r:=(ts.flatMap (tgO pw D v flex t)).flatMap oneTag++r) h1 h2
   rw [e,List.length_append,List.flatMap_append,List.append_assoc]
   simp only [List.length_cons,List.length_nil,List.flatMap_cons,List.flatMap_nil,List.append_nil]
   rw [show 0+1+(ts.flatMap (tgO pw D v flex t)).length+n=((ts.flatMap (tgO pw D v flex t)).length+n)+1 by omega]
   refine ⟨fun _=>by rw [e1];exact hks p (by simp),?_⟩
   rw [e1,e2]
   refine once_tags hr ts _ (fun q hq=>h q (by simp [hq])) (fun q hq hm => ?_) hp.2
   rcases List.mem_cons.1 hm with hm|hm
   ·exact hp.1 q hq hm.symm
   ·exact hks q (by simp [hq]) hm
  ·have e:tgO pw D v flex t p=[]:=by unfold tgO;rw [if_neg hu]
   rw [e,List.nil_append]
   exact once_tags hr ts ks (fun q hq=>h q (by simp [hq])) (fun q hq=>hks q (by simp [hq])) hp.2
theorem onceM_part {d:Nat} {v:Int} {fs:List Fld} {N:Nat} {t:Tree} (h:okRT d v true fs=true) (hs:Sized N t) (ts:List (Nat × Nat × Fld))
  (hts:tagsS (partS (d+1)) (d+2) fs v true t=ts.flatMap (tgO (partS (d+1)) (d+2) v true t)) (htf:∀ p∈ts,p.1 < 4294967296∧(fieldS (partS (d+1)) p.2.2 v true (t.at p.2.1)).length < 4294967296) (hp:ts.Pairwise (fun a b=>a.1≠b.1)) (hl:ts.length≤1000) :
  onceM (d+1) v fs (some (partS (d+2) fs v true t)):=by
 have hu:∀ x∈t.u,x.1 < 4294967296:=by
  cases hs with
  | mk ns hl he hk hN=>exact hk
 have hpl:=fun r=>rdL_plain (pr:=rdP (d+1) v true) (pw:=partS (d+1)) (pc:=cnP (d+1) v true) (flex:=true) (dfP (d+1)) t fs 0 r fun f hf hh i r=>rdF_partT h hs hf (.inl hh) i r
 intro xs s' hr
 rw [partS_eq] at hr
 unfold partT at hr
 rw [plainS_L,if_pos rfl,hts,hpl] at hr
 obtain ⟨-,rfl⟩:=Prod.mk.inj hr
 have hun:=unknownS_spec fs t.u
 have hul:=unknownS_len' fs t.u
 have htl:(ts.flatMap (tgO (partS (d+1)) (d+2) v true t)).length≤ts.length:=by
  have:∀ l:List (Nat × Nat × Fld),(l.flatMap (tgO (partS (d+1)) (d+2) v true t)).length≤l.length:=by
   intro l
   induction l with
   | nil=>simp
   | cons p l ih =>
    rw [List.flatMap_cons,List.length_append,List.length_cons]
    have:(tgO (partS (d+1)) (d+2) v true t p).length≤1:=by unfold tgO;split<;>simp
    omega
  exact this ts
 rw [rdUv_uvar _ _ (by omega)]
 refine once_tags (fun ks => ?_) ts [] htf (fun _ _ h=>by cases h) hp
 have:=once_unks (fs:=fs) (unknownS fs t.u) ks [] (fun x hx=>tagX_none (tag_known (hun.2 x hx).2)) (fun x hx=>hu x (hun.2 x hx).1)
 rw [List.append_nil] at this
 exact this
theorem partM_bound {d:Nat} {v:Int} {flex:Bool} {fs:List Fld} {N:Nat} {t:Tree} (hsub:∀ f∈fs,okM d f.sub=true) (hs:Sized N t) (ts:List (Nat × Nat × Fld))
  (hts:tagsS (partS (d+1)) (d+2) fs v true t=ts.flatMap (tgO (partS (d+1)) (d+2) v true t)) (htf:∀ p∈ts,p.1 < 4294967296∧p.2.2∈fs∧(fieldS (partS (d+1)) p.2.2 v true (t.at p.2.1)).length < 4294967296) (hl:ts.length≤1000) :
  (partS (d+2) fs v flex t).length≤(cst (d+2) fs+(ts.map fun p=>2 * cst (d+1) p.2.2.sub+60).sum) * (N+1):=by
 have hu:(t.u.map fun x=>x.2.length+1).sum≤N∧∀ x∈t.u,x.1 < 4294967296:=by
  cases hs with
  | mk ns hl he hk hN=>exact ⟨by simp only [Tree.u];omega,hk⟩
 have h1:=tags_bound fs t.u hu.2
 have h2:=unknownS_len' fs t.u
 have hf:∀ f∈fs,∀ flex i,(fieldS (partS (d+1)) f v flex (t.at i)).length≤(2 * cst (d+1) f.sub+40) * (N+1):=fun f hf flex i =>
  fieldS_bound (C:=cst (d+1) f.sub) (fun M x hx=>partS_bound v flex d f.sub M x (hsub f hf) hx) f rfl (hs.at i)
 have hplain:∀ (l:List Fld) (i:Nat),(∀ f∈l,f∈fs)→((l.zipIdx i).flatMap (plainF (partS (d+1)) v flex t)).length≤(l.map fun f=>2 * cst (d+1) f.sub+40).sum * (N+1):=by
  intro l
  induction l with
  | nil=>intro i _;simp
  | cons f l ihl =>
   intro i hm
   have g1:=ihl (i+1) fun g hg=>hm g (by simp [hg])
   have g2:(plainF (partS (d+1)) v flex t (f,i)).length≤(2 * cst (d+1) f.sub+40) * (N+1):=by
    unfold plainF
    split
    ·exact hf f (hm f (by simp)) flex i
    ·simp
   simp only [List.zipIdx_cons,List.flatMap_cons,List.length_append,List.map_cons,List.sum_cons,Nat.add_mul] at g1 g2 ⊢
   omega
 have g:=hplain fs 0 fun f hf=>hf
 have htags:∀ l:List (Nat × Nat × Fld),(∀ p∈l,p∈ts)→((l.flatMap (tgO (partS (d+1)) (d+2) v true t)).flatMap oneTag).length≤(l.map fun p=>2 * cst (d+1) p.2.2.sub+60).sum * (N+1):=by
  intro l
  induction l with
  | nil=>intro _;simp
  | cons p l ihl =>
   intro hm
   have g1:=ihl fun q hq=>hm q (by simp [hq])
   obtain ⟨h3,h4,h5⟩:=htf p (hm p (by simp))
   have h6:=hf p.2.2 h4 true p.2.1
   have g2:((tgO (partS (d+1)) (d+2) v true t p).flatMap oneTag).length≤(2 * cst (d+1) p.2.2.sub+60) * (N+1):=by
    have h7:(2 * cst (d+1) p.2.2.sub+60) * (N+1)=(2 * cst (d+1) p.2.2.sub+40) * (N+1)+20 * (N+1):=by rw [← Nat.add_mul]
    rw [h7]
    unfold tgO
    split
    ·have a1:=uvarS_len 9 p.1 (by omega)
     have a2:=uvarS_len 9 (fieldS (partS (d+1)) p.2.2 v true (t.at p.2.1)).length (by omega)
     simp only [List.flatMap_cons,List.flatMap_nil,List.append_nil,oneTag,List.length_append]
     omega
    ·simp
   rw [List.flatMap_cons,List.flatMap_append,List.length_append,List.map_cons,List.sum_cons,Nat.add_mul]
   omega
 have gt:=htags ts fun p hp=>hp
 have htl:(ts.flatMap (tgO (partS (d+1)) (d+2) v true t)).length≤ts.length:=by
  have:∀ l:List (Nat × Nat × Fld),(l.flatMap (tgO (partS (d+1)) (d+2) v true t)).length≤l.length:=by
   intro l
   induction l with
   | nil=>simp
   | cons p l ih =>
    rw [List.flatMap_cons,List.length_append,List.length_cons]
    have:(tgO (partS (d+1)) (d+2) v true t p).length≤1:=by unfold tgO;split<;>simp
    omega
  exact this ts
 have h3:=uvarS_len 9 ((ts.flatMap (tgO (partS (d+1)) (d+2) v true t)).length+(unknownS fs t.u).length) (by omega)
 have e4:plainS (partS (d+1)) fs v flex t=(fs.zipIdx 0).flatMap (plainF (partS (d+1)) v flex t):=rfl
 have e5:cst (d+2) fs=(fs.map fun f=>2 * cst (d+1) f.sub+40).sum+60:=rfl
 rw [partS_eq]
 unfold partT
 rw [e5,Nat.add_mul,Nat.add_mul,e4]
 cases flex with
 | true =>
  rw [if_pos rfl,hts]
  simp only [List.length_append]
  omega
 | false =>
  rw [if_neg (by decide)]
  omega
end Ms

namespace Ms
open Nat renaming reduceEqDiff → n0,reduceAdd → n1,reduceMul → n2,reduceSub → n3,reduceLT → n4,reduceLeDiff → n5
open Int renaming reduceEq → i0,reduceLT → i1,reduceLE → i2,reduceNeg → i3,reduceAdd → i4,reduceSub → i5,reduceMul → i6,reduceToNat → i7
set_option maxRecDepth 8000
open Go Go.Proofs Go.Shelf
attribute [local congr] W_congr WPsq_congr WPp_congr optK_congr addrK_congr intK_congr boolK_congr sliceK_congr tupleK_congr funcK_congr Fn_congr rawK_congr takeK_congr stepK_congr convK_congr aggK_congr

theorem TagsSetX_fn {okT:Blocks} {L vb o:Nat} {x:Blk} {m:Value} {u:List TagD} (w:World) (hG:TagsG okT L w m u) (hL:L≤w.heap.size) (hvL:vb < L) (hb:blk w vb=some x) (hm:x.1[o]? = some m) (hth:thaw x.2.2 o 1=true)
  (y:TagD) (vv:Value) (hval:BytesV (fun b=>okT b∧b < L) w vv y.2) (hy:y.1 < 2 ^ 32) (hnew:∀ z∈u,z.1≠y.1) (hoT:∀ b,okT b→b≠vb) :
  Fn Tryd.prog 39 #[.pointer (some ⟨vb,o,none⟩),.int .u32 y.1,vv] w fun _ w'=>∃ m',blk w' vb=some (x.1.setIfInBounds o (.map m'),x.2)∧TagsG okT L w' (.map m') (u++[y])∧Upd (fun b=>b=vb∨m = .map (some b)) w w'∧(∀ b,m'=some b→m = .map (some b)∨w.heap.size≤b):=by
 have hlt:o < x.1.size:=(Array.getElem?_eq_some_iff.1 hm).1
 rcases hG with ⟨rfl,rfl⟩|⟨r,es,clock,rfl,g2,g3,g4,g5,g6⟩
 ·refine (TagsSet_none w hb hm hth y.1 vv).mono ?_
  rintro _ w' rfl
  have hbl:=blk_lt hb
  have hU1:Upd (fun b=>b=vb∨Value.map none = .map (some b)) w (wr (w.alloc (.map #[] 0)) vb o [.map (some w.heap.size)]):=((Upd.refl _ _).alloc _).wr _ _ (.inr (.inl rfl))
  have hU2:=hU1.setBlock w.heap.size (.map #[{ key:=.int .u32 y.1,val:=vv,born:=0 }] 1) (.inl (Nat.le_refl _))
  have hz:w.heap.size < (wr (w.alloc (.map #[] 0)) vb o [.map (some w.heap.size)]).heap.size:=by rw [size_wr,World.size_alloc];omega
  refine ⟨some w.heap.size,?_,.inr ⟨w.heap.size,_,1,rfl,hL,setBlock_same _ _ _ hz,rfl,fun i h1 h2 => ?_,fun i j h1 h2 _ => ?_⟩,hU2,fun b hb=>.inr (by cases hb;exact Nat.le_refl _)⟩
  ·rw [blk_of_heap (setBlock_ne _ _ _ (by omega)),blk_wr_eq,blk_alloc_old hbl,hb];rfl
  ·simp only [List.nil_append,List.length_cons,List.length_nil] at h1
   obtain rfl:i=0:=by omega
   refine ⟨⟨rfl,hy,hval.keep (hU2.keeps fun b hb hk h => ?_)⟩,Nat.zero_lt_one⟩
   rcases h with h|h
   ·exact hoT b hk.1 h
   ·cases h
  ·have h1':i < 1:=h1
   have h2':j < 1:=h2
   omega
 ·have hKU:=tm_keysU g4 g5
  refine (TagsSet_some w hb hm g3 y.1 vv hKU ?_).mono ?_
  ·intro e he
   obtain ⟨i,hi,rfl⟩:=List.getElem_of_mem he
   simp only [Array.length_toList] at hi
   have:=(g5 i (by omega) hi).1.key
   rw [Array.getElem_toList,this]
   intro h
   simp only [Value.int.injEq,true_and] at h
   exact hnew _ (List.getElem_mem (by omega:i < u.length)) (by omega)
  ·rintro _ w' rfl
   have hU2:Upd (fun b=>b=vb∨Value.map (some r) = .map (some b)) w _:=(Upd.refl _ w).setBlock r (.map (es.push { key:=.int .u32 y.1,val:=vv,born:=clock }) (clock+1)) (.inr (.inr rfl))
   have hkp:Keeps (fun b=>okT b∧b < L) w _:=hU2.keeps fun b hb hk h=>by
    rcases h with h|h
    ·exact hoT b hk.1 h
    ·cases h;have:=hk.2;omega
   have hp:=tagE_push (e:={ key:=.int .u32 y.1,val:=vv,born:=clock }) (y:=y) g4 (fun i h1 h2=>⟨(g5 i h1 h2).1.keep hkp,(g5 i h1 h2).2⟩) ⟨rfl,hy,hval.keep hkp⟩ rfl
   refine ⟨some r,?_,.inr ⟨r,_,clock+1,rfl,g2,setBlock_same _ _ _ (heap_lt g3),hp.1,hp.2,inj_push g6 (fun i h1=>(g5 i (by omega) h1).2) rfl⟩,hU2,fun b hb=>.inl (by cases hb;rfl)⟩
   rw [blk_of_heap (setBlock_ne _ _ _ (by omega)),hb]
   have e:x.1.setIfInBounds o (.map (some r))=x.1:=by
    apply Array.ext_getElem?
    intro k
    rw [Array.getElem?_setIfInBounds]
    split
    ·rename_i h;subst h
     exact hm.symm
    ·rfl
   rw [e]
theorem TagsPutX_fn {okT:Blocks} {L vb o:Nat} {x:Blk} {m:Value} {u:List TagD} (w:World) (hG:TagsG okT L w m u) (hL:L≤w.heap.size) (hvL:vb < L) (hb:blk w vb=some x) (hm:x.1[o]? = some m) (hth:thaw x.2.2 o 1=true)
  (y:TagD) (vv:Value) (hval:BytesV (fun b=>okT b∧b < L) w vv y.2) (hy:y.1 < 2 ^ 32) (hnd:(u.map (·.1)).Nodup) (hoT:∀ b,okT b→b≠vb) :
  Fn Tryd.prog 39 #[.pointer (some ⟨vb,o,none⟩),.int .u32 y.1,vv] w fun _ w'=>∃ m',blk w' vb=some (x.1.setIfInBounds o (.map m'),x.2)∧TagsG okT L w' (.map m') (tagPut u y)∧Upd (fun b=>b=vb∨m = .map (some b)) w w'∧(∀ b,m'=some b→m = .map (some b)∨w.heap.size≤b):=by
 by_cases hnew:∀ z∈u,z.1≠y.1
 ·rw [tagPut_new hnew]
  exact TagsSetX_fn w hG hL hvL hb hm hth y vv hval hy hnew hoT
 ·obtain ⟨z,hz,he⟩:∃ z,z∈u∧z.1=y.1:=by
   apply Classical.byContradiction
   intro hc
   exact hnew fun z hz he=>hc ⟨z,hz,he⟩
  obtain ⟨i,hi,rfl⟩:=List.getElem_of_mem hz
  rw [tagPut_old hi he hnd]
  rcases hG with ⟨rfl,rfl⟩|⟨r,es,clock,rfl,g2,g3,g4,g5,g6⟩
  ·simp at hi
  ·have hKU:=tm_keysU g4 g5
   have hkey:∀ j (hj:j < es.size),es[j].key = .int .u32 y.1→j=i:=by
    intro j hj hk
    have h1:=(g5 j (by omega) hj).1.key
    rw [h1] at hk
    simp only [Value.int.injEq,true_and] at hk
    have hk2:u[j].1=u[i].1:=by rw [he];omega
    have hn2:=List.pairwise_iff_getElem.1 (List.nodup_iff_pairwise_ne.1 hnd)
    rcases Nat.lt_trichotomy i j with h3|h3|h3
    ·have:=hn2 i j (by simpa using hi) (by simp;omega) h3
     simp only [List.getElem_map] at this
     exact absurd hk2.symm this
    ·exact h3.symm
    ·have:=hn2 j i (by simp;omega) (by simpa using hi) h3
     simp only [List.getElem_map] at this
     exact absurd hk2 this
   refine (TagsSet_old (i:=i) w hb hm g3 y.1 vv hKU (by omega) ?_ ?_).mono ?_
   ·rw [(g5 i hi (by omega)).1.key,he]
   ·intro j hj hji hk
    have:=hkey j hj hk
    omega
   ·rintro _ w' rfl
    have hU2:Upd (fun b=>b=vb∨Value.map (some r) = .map (some b)) w _:=(Upd.refl _ w).setBlock r (.map (es.modify i fun e=>{ e with key:=.int .u32 y.1,val:=vv }) clock) (.inr (.inr rfl))
    have hkp:Keeps (fun b=>okT b∧b < L) w _:=hU2.keeps fun b hb hk h=>by
     rcases h with h|h
     ·exact hoT b hk.1 h
     ·cases h;have:=hk.2;omega
    have hp:=tagE_set (i:=i) g4 (fun i h1 h2=>⟨(g5 i h1 h2).1.keep hkp,(g5 i h1 h2).2⟩) hi hy (hval.keep hkp)
    refine ⟨some r,?_,.inr ⟨r,_,clock,rfl,g2,setBlock_same _ _ _ (heap_lt g3),hp.1,hp.2,inj_set (fun _=>rfl) g6⟩,hU2,fun b hb=>.inl (by cases hb;rfl)⟩
    rw [blk_of_heap (setBlock_ne _ _ _ (by
     intro e
     subst e
     have h8:=blk_lt hb
     unfold blk at hb
     rw [g3] at hb
     cases hb)),hb]
    have e:x.1.setIfInBounds o (.map (some r))=x.1:=by
     apply Array.ext_getElem?
     intro k
     rw [Array.getElem?_setIfInBounds]
     split
     ·rename_i h;subst h
      rw [if_pos (Array.getElem?_eq_some_iff.1 hm).1];exact hm.symm
     ·rfl
    rw [e]
end Ms

namespace Ms
open Go
section
variable {P : List Fld→Tree→Prop} {V:Int} {f:Fld} {t:Tree}
theorem FitWF.listL (h:FitWF P V f t) (hk:f.kind=11) {L:List Tree} (hL:L=if nullS f V t=true then [] else t.l):L.length≤32767∧∀ x∈L,Fit1 P f.of f.sub x:=by
 subst hL
 split
 ·exact ⟨by simp,fun x hx=>by cases hx⟩
 ·exact h.list hk
variable {pt : List Fld→Int→Bool→Tree→List UInt8} {flex:Bool}
end
end Ms

namespace Ms
open Go.World renaming size_alloc → qI
open Ms renaming size_wr → qJ,size_drew → qK,not_noB → qL
open W renaming seqR → qA,seq → qB,regR → qC,condK → qD,block → qE,skip → qF,ret → qG,exit → qH
open Nat renaming reduceEqDiff → n0,reduceAdd → n1,reduceMul → n2,reduceSub → n3,reduceLT → n4,reduceLeDiff → n5
open Int renaming reduceEq → i0,reduceLT → i1,reduceLE → i2,reduceNeg → i3,reduceAdd → i4,reduceSub → i5,reduceMul → i6,reduceToNat → i7
set_option maxRecDepth 4000
open Go Go.Proofs Go.Shelf
attribute [local congr] W_congr WPsq_congr WPp_congr optK_congr addrK_congr intK_congr boolK_congr sliceK_congr tupleK_congr funcK_congr Fn_congr rawK_congr takeK_congr stepK_congr convK_congr aggK_congr

theorem boolTree_fn (b:Bool) (w:World):Fn Tryd.prog 24 #[.bool b] w fun r w'=>r = .agg #[.int .i64 (if b=true then 1 else 0),.slice none 0 0,.bool false,.slice none 0 0,.slice none 0 0]∧Ext w w':=by
 refine fn_of_W Tryd.func24 rfl Tryd.results24 Tryd.ntmps24 rfl ?_
 cases b with
 | true =>
  repeat ((first|refine qA rfl ?_|apply qB|refine qC rfl ?_|apply qD|apply qE|apply qF|apply qG|apply qH);try simp (disch:=(first|omega|(simp only [qI,qJ,qK]<;>omega)|exact qL _)) only [go_sem,↓reduceIte,n0,reduceCtorEq,n1,n2,n3,n4,n5,i0,i1,i2,i3,i4,i5,i6,i7,cellsAt_five])
  first|exact (Upd.alloc (Upd.refl _ _) _).wr _ _ (.inl (Nat.le_refl _))|exact ⟨rfl,(Upd.alloc (Upd.refl _ _) _).wr _ _ (.inl (Nat.le_refl _))⟩
 | false =>
  repeat ((first|refine qA rfl ?_|apply qB|refine qC rfl ?_|apply qD|apply qE|apply qF|apply qG|apply qH);try simp (disch:=(first|omega|(simp only [qI,qJ,qK]<;>omega)|exact qL _)) only [go_sem,↓reduceIte,n0,reduceCtorEq,n1,n2,n3,n4,n5,i0,i1,i2,i3,i4,i5,i6,i7,cellsAt_five])
  first|exact (Upd.alloc (Upd.refl _ _) _).wr _ _ (.inl (Nat.le_refl _))|exact ⟨rfl,(Upd.alloc (Upd.refl _ _) _).wr _ _ (.inl (Nat.le_refl _))⟩

theorem sorted_fn {ok:Blocks} (v:Value) (u:List TagD) (w:World) (h:TagsV ok w v u) (hs:(u.map (·.1)).Pairwise (· < ·)) (hl:u.length≤32767):Fn Tryd.prog 27 #[v] w fun _ w'=>Ext w w':=by
 obtain ⟨a,c,rfl,_⟩:=SlR.shape h
 refine fn_of_W Tryd.func27 rfl Tryd.results27 Tryd.ntmps27 rfl ?_
 repeat ((first|refine qA rfl ?_|apply qB|refine qC rfl ?_|apply qD|apply qE|apply qF|apply qG|apply qH);try simp (disch:=(first|omega|(simp only [qI,qJ,qK]<;>omega)|exact qL _)) only [go_sem,↓reduceIte,n0,reduceCtorEq,n1,n2,n3,n4,n5,i0,i1,i2,i3,i4,i5,i6,i7])
 refine W.exitJ 0 (EndQ [] (fun w'=>Ext w w'))
  (W.loop (LoopL [(5,.int .i64 u.length),(0,.slice a u.length c)] 6 (fun j w'=>j≤u.length∧Ext w w')) (fun ρ _=>u.length - (RowKit.intOf (ρ 6)).toNat) ?_ ?_) ?_
 ·exact ⟨(by simp (disch:=(first|omega|(simp only [qI,qJ,qK]<;>omega)|exact qL _)) only [go_sem,↓reduceIte,n0,reduceCtorEq,n1,n2,n3,n4,n5,i0,i1,i2,i3,i4,i5,i6,i7,Holds_nil,Holds_cons]),0,(by simp (disch:=(first|omega|(simp only [qI,qJ,qK]<;>omega)|exact qL _)) only [go_sem,↓reduceIte,n0,reduceCtorEq,n1,n2,n3,n4,n5,i0,i1,i2,i3,i4,i5,i6,i7];all_goals rfl),Nat.zero_le _,Upd.refl _ _⟩
 ·rintro ρ w1 ⟨⟨h5,h0,-⟩,j,h6,hj,hE⟩
  by_cases hlt:j < u.length
  ·repeat ((first|refine qA rfl ?_|apply qB|refine qC rfl ?_|apply qD|apply qE|apply qF|apply qG|apply qH);try simp (disch:=(first|omega|(simp only [qI,qJ,qK]<;>omega)|exact qL _)) only [go_sem,↓reduceIte,n0,reduceCtorEq,n1,n2,n3,n4,n5,i0,i1,i2,i3,i4,i5,i6,i7,h6,h5,h0])
   refine W.exitJ 2 (EndQ [(6,.int .i64 j),(5,.int .i64 u.length),(0,.slice a u.length c)] (fun w'=>Ext w w')) (W.loop (EndQ [(3,.int .i64 j),(6,.int .i64 j),(5,.int .i64 u.length),(0,.slice a u.length c)] (fun w'=>Ext w w')) (fun _ _=>0) ?_ ?_) ?_
   ·exact ⟨(by simp (disch:=(first|omega|(simp only [qI,qJ,qK]<;>omega)|exact qL _)) only [go_sem,↓reduceIte,n0,reduceCtorEq,n1,n2,n3,n4,n5,i0,i1,i2,i3,i4,i5,i6,i7,Holds_nil,Holds_cons,h6,h5,h0]),hE⟩
   ·rintro ρ w2 ⟨⟨h3,h6,h5,h0,-⟩,hE2⟩
    by_cases hz:j=0
    ·subst hz
     have hc:¬ (0:Int) < ((0:Nat):Int):=by omega
     repeat ((first|refine qA rfl ?_|apply qB|refine qC rfl ?_|apply qD|apply qE|apply qF|apply qG|apply qH);try simp (disch:=(first|omega|(simp only [qI,qJ,qK]<;>omega)|exact qL _)) only [go_sem,↓reduceIte,n0,reduceCtorEq,n1,n2,n3,n4,n5,i0,i1,i2,i3,i4,i5,i6,i7])
     refine W.drawR (.take 0 (.take 1 (.take 2 (.take 3 (.take 4 (.take 5 (.take 6 (.take 7 (.take 8 (.take 9 (.take 10 (.take 11 (.take 12 (.take 13 (.take 14 (.take 15 .done)))))))))))))))) NoB mixed (by kernel_rfl) ?_
     simp (disch:=(first|omega|(simp only [qI,qJ,qK]<;>omega)|exact qL _)) only [go_sem,↓reduceIte,n0,reduceCtorEq,n1,n2,n3,n4,n5,i0,i1,i2,i3,i4,i5,i6,i7,h3,h0,hc]
     repeat ((first|refine qA rfl ?_|apply qB|refine qC rfl ?_|apply qD|apply qE|apply qF|apply qG|apply qH);try simp (disch:=(first|omega|(simp only [qI,qJ,qK]<;>omega)|exact qL _)) only [go_sem,↓reduceIte,n0,reduceCtorEq,n1,n2,n3,n4,n5,i0,i1,i2,i3,i4,i5,i6,i7,h3,h0,hc])
     exact ⟨(by simp (disch:=(first|omega|(simp only [qI,qJ,qK]<;>omega)|exact qL _)) only [go_sem,↓reduceIte,n0,reduceCtorEq,n1,n2,n3,n4,n5,i0,i1,i2,i3,i4,i5,i6,i7,Holds_nil,Holds_cons,h6,h5,h0]),hE2.drew⟩
    ·have hU:=h.keep (hE2.keeps _)
     obtain ⟨_,b,o,x,vv,hb,_,hx,_,hxs,_,q0,q1,_,_,h32⟩:=TagsV.get hU hlt
     obtain ⟨_,b',o',x',vv',hb',_,hx',_,hxs',_,q0',q1',_,_,h32'⟩:=TagsV.get hU (i:=j - 1) (by omega)
     subst hb
     cases hb'
     rw [hx] at hx';cases hx'
     have hle:u[j - 1].1 < u[j].1:=by
      have:=List.pairwise_iff_getElem.1 hs (j - 1) j (by simp;omega) (by simpa using hlt) (by omega)
      simpa using this
     generalize u[j].1=ka at *
     generalize u[j - 1].1=kb at *
     have hc:(0:Int) < (j:Int):=by omega
     have he:(j:Int) - 1=((j - 1:Nat):Int):=by omega
     have hd:¬ (ka:Int) < (kb:Int):=by omega
     repeat ((first|refine qA rfl ?_|apply qB|refine qC rfl ?_|apply qD|apply qE|apply qF|apply qG|apply qH);try simp (disch:=(first|omega|(simp only [qI,qJ,qK]<;>omega)|exact qL _)) only [go_sem,↓reduceIte,n0,reduceCtorEq,n1,n2,n3,n4,n5,i0,i1,i2,i3,i4,i5,i6,i7])
     refine W.drawR (.take 0 (.take 1 (.take 2 (.take 3 (.take 4 (.take 5 (.take 6 (.take 7 (.take 8 (.take 9 (.take 10 (.take 11 (.take 12 (.take 13 (.take 14 (.take 15 .done)))))))))))))))) NoB mixed (by kernel_rfl) ?_
     simp (disch:=(first|omega|(simp only [qI,qJ,qK]<;>omega)|exact qL _)) only [go_sem,↓reduceIte,n0,reduceCtorEq,n1,n2,n3,n4,n5,i0,i1,i2,i3,i4,i5,i6,i7,h3,h0,hc,he,hx,q0,q0',hd,Int.toNat_natCast]
     repeat ((first|refine qA rfl ?_|apply qB|refine qC rfl ?_|apply qD|apply qE|apply qF|apply qG|apply qH);try simp (disch:=(first|omega|(simp only [qI,qJ,qK]<;>omega)|exact qL _)) only [go_sem,↓reduceIte,n0,reduceCtorEq,n1,n2,n3,n4,n5,i0,i1,i2,i3,i4,i5,i6,i7,h3,h0,hc,he,hx,q0,q0',hd,Int.toNat_natCast])
     exact ⟨(by simp (disch:=(first|omega|(simp only [qI,qJ,qK]<;>omega)|exact qL _)) only [go_sem,↓reduceIte,n0,reduceCtorEq,n1,n2,n3,n4,n5,i0,i1,i2,i3,i4,i5,i6,i7,Holds_nil,Holds_cons,h6,h5,h0]),hE2.drew⟩
   ·rintro ρ w2 ⟨⟨h6,h5,h0,-⟩,hE2⟩
    repeat ((first|refine qA rfl ?_|apply qB|refine qC rfl ?_|apply qD|apply qE|apply qF|apply qG|apply qH);try simp (disch:=(first|omega|(simp only [qI,qJ,qK]<;>omega)|exact qL _)) only [go_sem,↓reduceIte,n0,reduceCtorEq,n1,n2,n3,n4,n5,i0,i1,i2,i3,i4,i5,i6,i7,h6,h5,h0])
    refine ⟨⟨(by simp (disch:=(first|omega|(simp only [qI,qJ,qK]<;>omega)|exact qL _)) only [go_sem,↓reduceIte,n0,reduceCtorEq,n1,n2,n3,n4,n5,i0,i1,i2,i3,i4,i5,i6,i7,Holds_nil,Holds_cons,h6,h5,h0]),j+1,(by simp (disch:=(first|omega|(simp only [qI,qJ,qK]<;>omega)|exact qL _)) only [go_sem,↓reduceIte,n0,reduceCtorEq,n1,n2,n3,n4,n5,i0,i1,i2,i3,i4,i5,i6,i7,h6];all_goals rfl),by omega,hE2⟩,?_⟩
    try simp (disch:=(first|omega|(simp only [qI,qJ,qK]<;>omega)|exact qL _)) only [go_sem,↓reduceIte,n0,reduceCtorEq,n1,n2,n3,n4,n5,i0,i1,i2,i3,i4,i5,i6,i7,h6]
    simp only [RowKit.intOf]
    omega
  ·repeat ((first|refine qA rfl ?_|apply qB|refine qC rfl ?_|apply qD|apply qE|apply qF|apply qG|apply qH);try simp (disch:=(first|omega|(simp only [qI,qJ,qK]<;>omega)|exact qL _)) only [go_sem,↓reduceIte,n0,reduceCtorEq,n1,n2,n3,n4,n5,i0,i1,i2,i3,i4,i5,i6,i7,h6,h5])
   exact ⟨trivial,hE⟩
 ·rintro ρ w1 ⟨-,hE⟩
  repeat ((first|refine qA rfl ?_|apply qB|refine qC rfl ?_|apply qD|apply qE|apply qF|apply qG|apply qH);try simp (disch:=(first|omega|(simp only [qI,qJ,qK]<;>omega)|exact qL _)) only [go_sem,↓reduceIte,n0,reduceCtorEq,n1,n2,n3,n4,n5,i0,i1,i2,i3,i4,i5,i6,i7])
  exact hE

end Ms

