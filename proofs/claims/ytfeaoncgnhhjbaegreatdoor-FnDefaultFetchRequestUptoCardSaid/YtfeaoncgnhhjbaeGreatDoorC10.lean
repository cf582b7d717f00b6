/- A part of the proof: see the last text. -/
import Derived.Test.YtfeaoncgnhhjbaeGreatDoorC02
import Derived.Test.YtfeaoncgnhhjbaeGreatDoorC03
import Derived.Test.YtfeaoncgnhhjbaeGreatDoorC05
import Derived.Test.YtfeaoncgnhhjbaeGreatDoorC06
import Derived.Test.YtfeaoncgnhhjbaeGreatDoorC08
import Derived.Test.YtfeaoncgnhhjbaeGreatDoorC09
set_option linter.unusedSimpArgs false
set_option linter.unusedVariables false
namespace Ms
open Go

def tagAt : List Fld→Nat→Nat→Option (Nat × Fld)
 | [],_,_=>none
 | f :: fs,i,k=>if f.tag=k then some (i,f) else tagAt fs (i+1) k
def tagX (fs:List Fld) (k:Nat):Option (Nat × Fld):=tagAt fs 0 k
theorem tagAt_none {k:Nat}:∀ {fs:List Fld} {i:Nat},(∀ f∈fs,f.tag≠k)→tagAt fs i k=none
 | [],_,_=>rfl
 | f :: fs,i,h=>by
  rw [tagAt,if_neg (h f (by simp))]
  exact tagAt_none fun g hg=>h g (by simp [hg])
theorem tagX_none {fs:List Fld} {k:Nat} (h:∀ f∈fs,f.tag≠k):tagX fs k=none:=tagAt_none h
theorem tag_known {fs:List Fld} {k:Nat} (h:knownS fs≤k):∀ f∈fs,f.tag≠k:=by
 have:∀ (fs:List Fld) (n:Nat),n≤fs.foldl (fun n f=>if 0≤f.tag then max n (f.tag.toNat+1) else n) n∧∀ f∈fs,0≤f.tag→f.tag.toNat+1≤fs.foldl (fun n f=>if 0≤f.tag then max n (f.tag.toNat+1) else n) n:=by
  intro fs
  induction fs with
  | nil=>intro n;exact ⟨Nat.le_refl _,fun f h=>by cases h⟩
  | cons f fs ih =>
   intro n
   rw [List.foldl_cons]
   obtain ⟨h1,h2⟩:=ih (if 0≤f.tag then max n (f.tag.toNat+1) else n)
   refine ⟨?_,fun g hg h0 => ?_⟩
   ·refine Nat.le_trans ?_ h1
    split<;>omega
   ·rcases List.mem_cons.1 hg with rfl|hg
    ·rw [if_pos h0] at h1 ⊢
     omega
    ·exact h2 g hg h0
 intro f hf e
 have h2:=(this fs 0).2 f hf (by omega)
 have h3:fs.foldl (fun n f=>if 0≤f.tag then max n (f.tag.toNat+1) else n) 0≤k:=h
 omega

section
variable (pt : List Fld→St→Tree × St) (v:Int) (flex:Bool) (fs:List Fld)
def rdTg : Nat→List Tree→List TagD→St→(List Tree × List TagD) × St
 | 0,xs,u,st=>((xs,u),st)
 | n+1,xs,u,st =>
  match tagX fs (rdUv st).1 with
  | some p =>
   if (rdF pt v flex p.2 (some (rdSpan (rdUv (rdUv st).2).1 (rdUv (rdUv st).2).2).1)).2=none then ((xs,u),none)
   else rdTg n (xs.set p.1 (rdF pt v flex p.2 (some (rdSpan (rdUv (rdUv st).2).1 (rdUv (rdUv st).2).2).1)).1) u (rdSpan (rdUv (rdUv st).2).1 (rdUv (rdUv st).2).2).2
  | none=>rdTg n xs (rdTag u st).1 (rdTag u st).2
def rdTgs (xs:List Tree) (st:St):(List Tree × List TagD) × St:=rdTg pt v flex fs (rdUv st).1 xs [] (rdUv st).2
end
section
variable {pt : List Fld→St→Tree × St} {v:Int} {flex:Bool} {fs:List Fld} {xs:List Tree} {u:List TagD} {st:St} {n k i:Nat} {f:Fld}
theorem rdTg_known {x:Tree} {s':St} (hk:(rdUv st).1=k) (h:tagX fs k=some (i,f)) (hx:rdF pt v flex f (some (rdSpan (rdUv (rdUv st).2).1 (rdUv (rdUv st).2).2).1)=(x,s')) (hs:s'≠none) :
  rdTg pt v flex fs (n+1) xs u st=rdTg pt v flex fs n (xs.set i x) u (rdSpan (rdUv (rdUv st).2).1 (rdUv (rdUv st).2).2).2:=by
 rw [rdTg,hk,h]
 simp only [hx]
 rw [if_neg hs]
theorem rdTg_bad (hk:(rdUv st).1=k) (h:tagX fs k=some (i,f)) (hx:(rdF pt v flex f (some (rdSpan (rdUv (rdUv st).2).1 (rdUv (rdUv st).2).2).1)).2=none) :
  (rdTg pt v flex fs (n+1) xs u st).2=none:=by
 rw [rdTg,hk,h]
 simp only
 rw [if_pos hx]
theorem rdTg_unk (h:tagX fs (rdUv st).1=none):rdTg pt v flex fs (n+1) xs u st=rdTg pt v flex fs n xs (tagPut u ((rdUv st).1,(rdSpan (rdUv (rdUv st).2).1 (rdUv (rdUv st).2).2).1)) (rdSpan (rdUv (rdUv st).2).1 (rdUv (rdUv st).2).2).2:=by
 rw [rdTg,h]
 rfl
theorem rdTg_one {x:Tree} {o r:List UInt8} (h:tagX fs k=some (i,f)) (hk:k < 4294967296) (ho:o.length < 4294967296) (hx:rdF pt v flex f (some o)=(x,some [])) :
  rdTg pt v flex fs (n+1) xs u (some (oneTag (k,o)++r))=rdTg pt v flex fs n (xs.set i x) u (some r):=by
 have e:oneTag (k,o)++r=uvarS k++(uvarS o.length++(o++r)):=by simp [oneTag]
 have h1:rdUv (some (oneTag (k,o)++r))=(k,some (uvarS o.length++(o++r))):=by rw [e,rdUv_uvar _ _ hk]
 have h2:rdUv (some (uvarS o.length++(o++r)))=(o.length,some (o++r)):=rdUv_uvar _ _ ho
 have h3:rdSpan ((rdUv (rdUv (some (oneTag (k,o)++r))).2).1:Nat) (rdUv (rdUv (some (oneTag (k,o)++r))).2).2=(o,some r):=by
  rw [h1];simp only [h2];exact rdSpan_app o r
 rw [rdTg_known (k:=k) (x:=x) (s':=some []) (by rw [h1]) h (by rw [h3];exact hx) (by simp),h3]
theorem rdTg_unks : ∀ (l acc:List TagD) (r:List UInt8),(∀ x∈l,tagX fs x.1=none)→(∀ x∈l,x.1 < 4294967296)→(∀ x∈l,∀ y∈acc,y.1≠x.1)→l.Pairwise (fun a b=>a.1≠b.1) →
  rdTg pt v flex fs l.length xs acc (some (l.flatMap unkT++r))=((xs,acc++l.map fun u=>(u.1,wholeS u.2)),some r)
 | [],acc,r,_,_,_,_=>by simp [rdTg]
 | x :: l,acc,r,h0,h1,h2,h3=>by
  rw [List.length_cons,List.flatMap_cons,List.append_assoc]
  have hu:(rdUv (some (unkT x++(l.flatMap unkT++r)))).1=x.1:=by
   have e:unkT x++(l.flatMap unkT++r)=uvarS x.1++(uvarS (wholeS x.2).length++(wholeS x.2++(l.flatMap unkT++r))):=by simp [unkT,oneTag]
   rw [e,rdUv_uvar _ _ (h1 x (by simp))]
  rw [rdTg,hu,h0 x (by simp)]
  simp only
  rw [rdTag_unk acc x _ (h1 x (by simp))]
  have hn:tagPut acc (x.1,wholeS x.2)=acc++[(x.1,wholeS x.2)]:=tagPut_new fun z hz=>h2 x (by simp) z hz
  simp only [hn]
  rw [List.pairwise_cons] at h3
  rw [rdTg_unks l _ r (fun y hy=>h0 y (by simp [hy])) (fun y hy=>h1 y (by simp [hy])) (fun y hy z hz=>by
   rcases List.mem_append.1 hz with hz|hz
   ·exact h2 y (by simp [hy]) z hz
   ·simp only [List.mem_singleton] at hz;rw [hz];exact h3.1 y hy) h3.2]
  simp
end

/-! ### What was written is read again -/
def tgO (pw:List Fld→Int→Bool→Tree→List UInt8) (D:Nat) (v:Int) (flex:Bool) (t:Tree) (p:Nat × Nat × Fld):List TagD:=if usualS D p.2.2 (t.at p.2.1)=false then [(p.1,fieldS pw p.2.2 v flex (t.at p.2.1))] else []
def setT (pc:List Fld→Tree→Tree) (D:Nat) (v:Int) (t:Tree) (ts:List (Nat × Nat × Fld)) (xs:List Tree):List Tree:=ts.foldl (fun xs p=>if usualS D p.2.2 (t.at p.2.1)=false then xs.set p.2.1 (cnF pc v p.2.2 (t.at p.2.1)) else xs) xs
theorem rdTg_tags {pr:List Fld→St→Tree × St} {pw:List Fld→Int→Bool→Tree→List UInt8} {pc:List Fld→Tree→Tree} {D:Nat} {v:Int} {flex:Bool} {fs:List Fld} {t:Tree}:∀ (ts:List (Nat × Nat × Fld)) (n:Nat) (xs:List Tree) (u:List TagD) (r:List UInt8),
  (∀ p∈ts,tagX fs p.1=some p.2∧p.1 < 4294967296∧(fieldS pw p.2.2 v flex (t.at p.2.1)).length < 4294967296∧rdF pr v flex p.2.2 (some (fieldS pw p.2.2 v flex (t.at p.2.1)))=(cnF pc v p.2.2 (t.at p.2.1),some [])) →
  rdTg pr v flex fs ((ts.flatMap (tgO pw D v flex t)).length+n) xs u (some ((ts.flatMap (tgO pw D v flex t)).flatMap oneTag++r))=rdTg pr v flex fs n (setT pc D v t ts xs) u (some r)
 | [],n,xs,u,r,_=>by simp [setT]
 | p :: ts,n,xs,u,r,h=>by
  obtain ⟨h1,h2,h3,h4⟩:=h p (by simp)
  have ih:=fun xs=>rdTg_tags (pr:=pr) (pw:=pw) (pc:=pc) (D:=D) ts n xs u r fun q hq=>h q (by simp [hq])
  rw [List.flatMap_cons]
  by_cases hu:usualS D p.2.2 (t.at p.2.1)=false
  ·have e:tgO pw D v flex t p=[(p.1,fieldS pw p.2.2 v flex (t.at p.2.1))]:=by unfold tgO;rw [if_pos hu]
   rw [e,List.length_append,List.flatMap_append,List.append_assoc]
   simp only [List.length_cons,List.length_nil,List.flatMap_cons,List.flatMap_nil,List.append_nil]
   rw [show 0+1+(ts.flatMap (tgO pw D v flex t)).length+n=((ts.flatMap (tgO pw D v flex t)).length+n)+1 by omega]
   rw [rdTg_one h1 h2 h3 h4,ih]
   simp only [setT,List.foldl_cons]
   rw [if_pos hu]
  ·have e:tgO pw D v flex t p=[]:=by unfold tgO;rw [if_neg hu]
   rw [e,List.nil_append,ih]
   simp only [setT,List.foldl_cons]
   rw [if_neg hu]

def cnT (pt:List Fld→Tree→Tree) (dp:List Fld→Tree) (D:Nat) (v:Int) (flex:Bool) (t:Tree):List Fld→Nat→List Tree
 | [],_=>[]
 | f :: fs,i=>(if liveS D v flex f (t.at i)=true then cnF pt v f (t.at i) else dfF dp f) :: cnT pt dp D v flex t fs (i+1)
theorem cnT_f (pc:List Fld→Tree→Tree) (dp:List Fld→Tree) (D:Nat) (v:Int) (t:Tree):∀ (fs:List Fld) (i:Nat),cnT pc dp D v false t fs i=cnL pc dp v t fs i
 | [],_=>rfl
 | f :: fs,i=>by
  rw [cnT,cnL,cnT_f pc dp D v t fs (i+1)]
  congr 1
  simp [liveS]
theorem cnT_all3 {R:Fld→Tree→Prop} {pc:List Fld→Tree→Tree} {dp:List Fld→Tree} {D:Nat} {v:Int} {flex:Bool} {t:Tree}:∀ (fs:List Fld) (i:Nat),(∀ f∈fs,(∀ x,R f (cnF pc v f x))∧R f (dfF dp f))→All3 R fs (cnT pc dp D v flex t fs i)
 | [],_,_=>.nil
 | f :: fs,i,h=>.cons (by split;exact (h f (by simp)).1 _;exact (h f (by simp)).2) (cnT_all3 fs (i+1) fun g hg=>h g (by simp [hg]))
def LoopT (l:List (Nat × Value)) (ri:Nat) (I:Nat→World→Prop) (ρ:Regs) (w:World):Prop:=Holds l ρ∧∃ j:Nat,ρ ri = .int .u32 j∧I j w
theorem rdL_tg {pt:List Fld→St→Tree × St} {dp:List Fld→Tree} {v:Int} {flex:Bool} {f:Fld} {fs:List Fld} {s:St} (h:0≤f.tag):rdL pt dp v flex (f :: fs) s=(dfF dp f :: (rdL pt dp v flex fs s).1,(rdL pt dp v flex fs s).2):=by
 rw [rdL,if_neg (fun h'=>by omega)]
theorem errV_some {ev:Value} {st:St} (h:st≠none):errV ev st = .nilIface:=by
 unfold errV
 cases st with
 | none=>exact absurd rfl h
 | some x=>rfl
end Ms

namespace Ms
set_option maxRecDepth 8000
open Go Go.Proofs Go.Shelf
attribute [local congr] W_congr WPsq_congr WPp_congr optK_congr addrK_congr intK_congr boolK_congr sliceK_congr tupleK_congr funcK_congr Fn_congr rawK_congr takeK_congr stepK_congr convK_congr aggK_congr

theorem TagsSetX_fn {okT:Blocks} {L vb o:Nat} {x:Blk} {m:Value} {u:List TagD} (w:World) (hG:TagsG okT L w m u) (hL:L≤w.heap.size) (hvL:vb < L) (hb:blk w vb=some x) (hm:x.1[o]? = some m) (hth:thaw x.2.2 o 1=true)
  (y:TagD) (vv:Value) (hval:BytesV (fun b=>okT b∧b < L) w vv y.2) (hy:y.1 < 2 ^ 32) (hnew:∀ z∈u,z.1≠y.1) (hoT:∀ b,okT b→b≠vb) :
  Fn Tryz.prog 57 #[.pointer (some ⟨vb,o,none⟩),.int .u32 y.1,vv] w fun _ w'=>∃ m',blk w' vb=some (x.1.setIfInBounds o (.map m'),x.2)∧TagsG okT L w' (.map m') (u++[y])∧Upd (fun b=>b=vb∨m = .map (some b)) w w'∧(∀ b,m'=some b→m = .map (some b)∨w.heap.size≤b):=by
 have hlt:o < x.1.size:=(Array.getElem?_eq_some_iff.1 hm).1
 rcases hG with ⟨rfl,rfl⟩|⟨r,es,clock,rfl,g2,g3,g4,g5,g6⟩
 ·refine (TagsSet_none w hb hm hth y.1 vv).mono ?_
  rintro _ w' rfl
  have hbl:=blk_lt hb
  have hU1:Upd (fun b=>b=vb∨Value.map none = .map (some b)) w (wr (w.alloc (.map #[] 0)) vb o [.map (some w.heap.size)]):=((Upd.refl _ _).alloc _).wr _ _ (.inr (.inl rfl))
  have hU2:=hU1.setBlock w.heap.size (.map #[{ key:=.int .u32 y.1,val:=vv,born:=0 }] 1) (.inl (Nat.le_refl _))
  have hz:w.heap.size < (wr (w.alloc (.map #[] 0)) vb o [.map (some w.heap.size)]).heap.size:=by rw [size_wr,World.size_alloc];omega
  refine ⟨some w.heap.size,?_,.inr ⟨w.heap.size,_,1,rfl,hL,setBlock_same _ _ _ hz,rfl,fun i h1 h2 => ?_,fun i j h1 h2 _ => ?_⟩,hU2,fun b hb=>.inr (by cases hb;exact Nat.le_refl _)⟩
  ·rw [blk_of_heap (setBlock_ne _ _ _ (by omega)),blk_wr_eq,blk_alloc_old hbl,hb];rfl
  ·simp only [List.nil_append,List.length_cons,List.length_nil] at h1
   obtain rfl:i=0:=by omega
   refine ⟨⟨rfl,hy,hval.keep (hU2.keeps fun b hb hk h => ?_)⟩,Nat.zero_lt_one⟩
   rcases h with h|h
   ·exact hoT b hk.1 h
   ·cases h
  ·have h1':i < 1:=h1
   have h2':j < 1:=h2
   omega
 ·have hKU:=tm_keysU g4 g5
  refine (TagsSet_some w hb hm g3 y.1 vv hKU ?_).mono ?_
  ·intro e he
   obtain ⟨i,hi,rfl⟩:=List.getElem_of_mem he
   simp only [Array.length_toList] at hi
   have:=(g5 i (by omega) hi).1.key
   rw [Array.getElem_toList,this]
   intro h
   simp only [Value.int.injEq,true_and] at h
   exact hnew _ (List.getElem_mem (by omega:i < u.length)) (by omega)
  ·rintro _ w' rfl
   have hU2:Upd (fun b=>b=vb∨Value.map (some r) = .map (some b)) w _:=(Upd.refl _ w).setBlock r (.map (es.push { key:=.int .u32 y.1,val:=vv,born:=clock }) (clock+1)) (.inr (.inr rfl))
   have hkp:Keeps (fun b=>okT b∧b < L) w _:=hU2.keeps fun b hb hk h=>by
    rcases h with h|h
    ·exact hoT b hk.1 h
    ·cases h;have:=hk.2;omega
   have hp:=tagE_push (e:={ key:=.int .u32 y.1,val:=vv,born:=clock }) (y:=y) g4 (fun i h1 h2=>⟨(g5 i h1 h2).1.keep hkp,(g5 i h1 h2).2⟩) ⟨rfl,hy,hval.keep hkp⟩ rfl
   refine ⟨some r,?_,.inr ⟨r,_,clock+1,rfl,g2,setBlock_same _ _ _ (heap_lt g3),hp.1,hp.2,inj_push g6 (fun i h1=>(g5 i (by omega) h1).2) rfl⟩,hU2,fun b hb=>.inl (by cases hb;rfl)⟩
   rw [blk_of_heap (setBlock_ne _ _ _ (by omega)),hb]
   have e:x.1.setIfInBounds o (.map (some r))=x.1:=by
    apply Array.ext_getElem?
    intro k
    rw [Array.getElem?_setIfInBounds]
    split
    ·rename_i h;subst h
     exact hm.symm
    ·rfl
   rw [e]
theorem TagsPutX_fn {okT:Blocks} {L vb o:Nat} {x:Blk} {m:Value} {u:List TagD} (w:World) (hG:TagsG okT L w m u) (hL:L≤w.heap.size) (hvL:vb < L) (hb:blk w vb=some x) (hm:x.1[o]? = some m) (hth:thaw x.2.2 o 1=true)
  (y:TagD) (vv:Value) (hval:BytesV (fun b=>okT b∧b < L) w vv y.2) (hy:y.1 < 2 ^ 32) (hnd:(u.map (·.1)).Nodup) (hoT:∀ b,okT b→b≠vb) :
  Fn Tryz.prog 57 #[.pointer (some ⟨vb,o,none⟩),.int .u32 y.1,vv] w fun _ w'=>∃ m',blk w' vb=some (x.1.setIfInBounds o (.map m'),x.2)∧TagsG okT L w' (.map m') (tagPut u y)∧Upd (fun b=>b=vb∨m = .map (some b)) w w'∧(∀ b,m'=some b→m = .map (some b)∨w.heap.size≤b):=by
 by_cases hnew:∀ z∈u,z.1≠y.1
 ·rw [tagPut_new hnew]
  exact TagsSetX_fn w hG hL hvL hb hm hth y vv hval hy hnew hoT
 ·obtain ⟨z,hz,he⟩:∃ z,z∈u∧z.1=y.1:=by
   apply Classical.byContradiction
   intro hc
   exact hnew fun z hz he=>hc ⟨z,hz,he⟩
  obtain ⟨i,hi,rfl⟩:=List.getElem_of_mem hz
  rw [tagPut_old hi he hnd]
  rcases hG with ⟨rfl,rfl⟩|⟨r,es,clock,rfl,g2,g3,g4,g5,g6⟩
  ·simp at hi
  ·have hKU:=tm_keysU g4 g5
   have hkey:∀ j (hj:j < es.size),es[j].key = .int .u32 y.1→j=i:=by
    intro j hj hk
    have h1:=(g5 j (by omega) hj).1.key
    rw [h1] at hk
    simp only [Value.int.injEq,true_and] at hk
    have hk2:u[j].1=u[i].1:=by rw [he];omega
    have hn2:=List.pairwise_iff_getElem.1 (List.nodup_iff_pairwise_ne.1 hnd)
    rcases Nat.lt_trichotomy i j with h3|h3|h3
    ·have:=hn2 i j (by simpa using hi) (by simp;omega) h3
     simp only [List.getElem_map] at this
     exact absurd hk2.symm this
    ·exact h3.symm
    ·have:=hn2 j i (by simp;omega) (by simpa using hi) h3
     simp only [List.getElem_map] at this
     exact absurd hk2 this
   refine (TagsSet_old (i:=i) w hb hm g3 y.1 vv hKU (by omega) ?_ ?_).mono ?_
   ·rw [(g5 i hi (by omega)).1.key,he]
   ·intro j hj hji hk
    have:=hkey j hj hk
    omega
   ·rintro _ w' rfl
    have hU2:Upd (fun b=>b=vb∨Value.map (some r) = .map (some b)) w _:=(Upd.refl _ w).setBlock r (.map (es.modify i fun e=>{ e with key:=.int .u32 y.1,val:=vv }) clock) (.inr (.inr rfl))
    have hkp:Keeps (fun b=>okT b∧b < L) w _:=hU2.keeps fun b hb hk h=>by
     rcases h with h|h
     ·exact hoT b hk.1 h
     ·cases h;have:=hk.2;omega
    have hp:=tagE_set (i:=i) g4 (fun i h1 h2=>⟨(g5 i h1 h2).1.keep hkp,(g5 i h1 h2).2⟩) hi hy (hval.keep hkp)
    refine ⟨some r,?_,.inr ⟨r,_,clock,rfl,g2,setBlock_same _ _ _ (heap_lt g3),hp.1,hp.2,inj_set (fun _=>rfl) g6⟩,hU2,fun b hb=>.inl (by cases hb;rfl)⟩
    rw [blk_of_heap (setBlock_ne _ _ _ (by
     intro e
     subst e
     have h8:=blk_lt hb
     unfold blk at hb
     rw [g3] at hb
     cases hb)),hb]
    have e:x.1.setIfInBounds o (.map (some r))=x.1:=by
     apply Array.ext_getElem?
     intro k
     rw [Array.getElem?_setIfInBounds]
     split
     ·rename_i h;subst h
      rw [if_pos (Array.getElem?_eq_some_iff.1 hm).1];exact hm.symm
     ·rfl
    rw [e]
end Ms

namespace Ms
open Go

section
variable {pt : List Fld→St→Tree × St} {v:Int} {flex:Bool} {f:Fld} {s:St}
theorem rdF_part (hk:f.kind=10) (hn:f.null < 0):rdF pt v flex f s=pt f.sub s:=by
 unfold rdF rd1
 rw [if_neg (by omega),if_neg (by omega),if_neg (by omega),if_neg (by omega),if_neg (by omega),if_neg (by omega),if_pos hk]
end
section
variable {R : List Fld→Rel Tree} {S:List Fld→Nat} {f:Fld} {ok:Blocks} {w:World} {t:Tree} {c:List Value}
theorem RepF_part (h:f.kind=10) (hn:f.null < 0):RepF R S f ok w t c↔R f.sub ok w t c:=by
 unfold RepF Rep1
 rw [if_neg (by omega),if_neg (by omega),if_neg (by omega),if_neg (by omega),if_neg (by omega),if_neg (by omega),if_pos h]
end
section
variable {pt : List Fld→St→Tree × St} {v:Int} {flex:Bool} {f:Fld} {s:St}
end

section
variable {pt : List Fld→St→Tree × St} {v:Int} {flex:Bool} {fs:List Fld}
end

def rdQ : Nat→Int→Bool→List Fld→St→Tree × St
 | 0,_,_,_,st=>(.zero,st)
 | d+1,v,flex,fs,st =>
  if flex=true then
   (.mk 0 [] false (rdTgs (rdQ d v true) v true fs (rdL (rdQ d v true) (dfP d) v true fs st).1 (rdL (rdQ d v true) (dfP d) v true fs st).2).1.1
     (rdTgs (rdQ d v true) v true fs (rdL (rdQ d v true) (dfP d) v true fs st).1 (rdL (rdQ d v true) (dfP d) v true fs st).2).1.2,
    (rdTgs (rdQ d v true) v true fs (rdL (rdQ d v true) (dfP d) v true fs st).1 (rdL (rdQ d v true) (dfP d) v true fs st).2).2)
  else (.mk 0 [] false (rdL (rdQ d v false) (dfP d) v false fs st).1 [],(rdL (rdQ d v false) (dfP d) v false fs st).2)
theorem rdQ_t {d:Nat} {v:Int} {fs:List Fld} {st s' e:St} {xs ys:List Tree} {u:List TagD} (h:rdL (rdQ d v true) (dfP d) v true fs st=(xs,s')) (hg:rdTgs (rdQ d v true) v true fs xs s'=((ys,u),e)):rdQ (d+1) v true fs st=(.mk 0 [] false ys u,e):=by
 rw [rdQ,if_pos rfl,h]
 simp only [hg]
theorem rdQ_f {d:Nat} {v:Int} {fs:List Fld} {s:St} {l:List Tree} {e:St} (h:rdL (rdQ d v false) (dfP d) v false fs s=(l,e)):rdQ (d+1) v false fs s=(.mk 0 [] false l [],e):=by
 rw [rdQ,if_neg (by decide),h]
section
variable {pt : List Fld→St→Tree × St} {v:Int} {flex:Bool} {fs:List Fld}
theorem rdTg_plain (hn:∀ f∈fs,f.tag < 0):∀ (n:Nat) (xs:List Tree) (u:List TagD) (st:St),rdTg pt v flex fs n xs u st=((xs,(rdTagsN n u st).1),(rdTagsN n u st).2)
 | 0,_,_,_=>rfl
 | n+1,xs,u,st=>by
  rw [rdTg,tagX_none fun f hf h=>by have:=hn f hf;omega]
  simp only
  rw [rdTg_plain hn n,rdTagsN]
theorem rdTg_none : ∀ (n:Nat) (xs:List Tree) (u:List TagD),(rdTg pt v flex fs n xs u none).2=none
 | 0,_,_=>rfl
 | n+1,xs,u=>by
  rw [rdTg]
  split
  ·split
   ·rfl
   ·exact rdTg_none n _ u
  ·exact rdTg_none n xs _
end
theorem rdQ_tn {d:Nat} {v:Int} {fs:List Fld} {s:St} {l:List Tree} {e:St} (hn:∀ f∈fs,f.tag < 0) (h:rdL (rdQ d v true) (dfP d) v true fs s=(l,e)):rdQ (d+1) v true fs s=(.mk 0 [] false l (rdTags e).1,(rdTags e).2) :=
 rdQ_t h (by unfold rdTgs rdTags;exact rdTg_plain hn _ _ _ _)
theorem rdQ_none (v:Int) (flex:Bool):∀ d fs,(rdQ d v flex fs none).2=none
 | 0,_=>rfl
 | d+1,fs=>by
  cases flex with
  | true =>
   rw [rdQ,if_pos rfl]
   simp only
   rw [rdL_none (rdQ_none v true d)]
   exact rdTg_none _ _ _
  | false =>
   rw [rdQ,if_neg (by decide)]
   exact rdL_none (rdQ_none v false d) v false fs
theorem rdQ_bad {d:Nat} {v:Int} {flex:Bool} {fs:List Fld} {s:St} (h:(rdL (rdQ d v flex) (dfP d) v flex fs s).2=none):(rdQ (d+1) v flex fs s).2=none:=by
 cases flex with
 | true =>
  rw [rdQ,if_pos rfl]
  simp only
  rw [h]
  exact rdTg_none _ _ _
 | false =>
  rw [rdQ,if_neg (by decide)]
  exact h
theorem rdQ_badT {d:Nat} {v:Int} {fs:List Fld} {st s':St} {xs:List Tree} (h:rdL (rdQ d v true) (dfP d) v true fs st=(xs,s')) (hb:(rdTgs (rdQ d v true) v true fs xs s').2=none):(rdQ (d+1) v true fs st).2=none:=by
 rw [rdQ,if_pos rfl,h]
 exact hb
theorem rdLQ_bad {d:Nat} {v:Int} {flex:Bool} {f:Fld} {fs:List Fld} {s:St} (h:(rdF (rdQ d v flex) v flex f s).2=none):(rdL (rdQ d v flex) (dfP d) v flex fs (rdF (rdQ d v flex) v flex f s).2).2=none:=by
 rw [h];exact rdL_none (rdQ_none v flex d) v flex fs
theorem rdFQ_listbad {d:Nat} {v:Int} {flex:Bool} {f:Fld} {s:St} (hk:f.kind=11) (h:(rdMany (rd1 (rdQ d v flex) f.of f.sub false flex) (rdALen flex s).1.toNat (rdALen flex s).2).2=none):(rdF (rdQ d v flex) v flex f s).2=none:=by
 unfold rdF
 rw [if_pos hk]
 exact h
theorem rd1Q_none {d:Nat} {v:Int} {flex:Bool} {k:Int} {sub:List Fld}:(rd1 (rdQ d v flex) k sub false flex none).2=none:=rd1_none (rdQ_none v flex d) _ _ _ _
section
variable {d : Nat} {pt:List Fld→St→Tree × St} {v:Int} {flex:Bool} (hs:∀ sub,Shr (pt sub)) (hz:∀ sub st,(pt sub st).1.s=[]∧(pt sub st).1.n=0)
include hs hz
end
end Ms

/- Reading: a field that is there or not,in one. -/
namespace Ms
open Go
def rdA (pt:List Fld→St→Tree × St) (dp:List Fld→Tree) (v:Int) (flex:Bool) (f:Fld) (s:St):Tree × St :=
 if hasS f v=true then rdF pt v flex f s else (dfF dp f,s)
section
variable {pt : List Fld→St→Tree × St} {dp:List Fld→Tree} {v:Int} {flex:Bool} {f:Fld} {fs:List Fld} {s:St}
theorem rdA_yes (h:hasS f v=true):rdA pt dp v flex f s=rdF pt v flex f s:=by
 unfold rdA
 rw [if_pos h]
theorem rdA_no (h:hasS f v=false):rdA pt dp v flex f s=(dfF dp f,s):=by
 unfold rdA
 rw [if_neg (by rw [h];decide)]
theorem rdL_any (ht:f.tag < 0):rdL pt dp v flex (f :: fs) s=((rdA pt dp v flex f s).1 :: (rdL pt dp v flex fs (rdA pt dp v flex f s).2).1,(rdL pt dp v flex fs (rdA pt dp v flex f s).2).2):=by
 cases h:hasS f v with
 | true=>rw [rdL_st ht h,rdA_yes h]
 | false=>rw [rdL_no h,rdA_no h]
end
def normRQ (J Qr:Regs→World→Prop):Exit→Regs→World→Prop:=fun e ρ w=>(e = .normal∧J ρ w)∨(e = .ret∧Qr ρ w)
theorem normRQ_normal (J Qr:Regs→World→Prop) (ρ:Regs) (w:World):normRQ J Qr .normal ρ w=J ρ w:=by simp [normRQ]
theorem normRQ_ret (J Qr:Regs→World→Prop) (ρ:Regs) (w:World):normRQ J Qr .ret ρ w=Qr ρ w:=by simp [normRQ]
theorem W.normRJ {P:Program} {n:Nat} {c:Code} {Q:Exit→Regs→World→Prop} {ρ:Regs} {w:World} (J:Regs→World→Prop) (h:W P n c (normRQ J (Q .ret)) ρ w) (hq:∀ ρ w,J ρ w→Q .normal ρ w):W P n c Q ρ w :=
 h.mono fun e ρ w he=>by
  rcases he with ⟨rfl,hj⟩|⟨rfl,hj⟩
  ·exact hq ρ w hj
  ·exact hj

section
variable {P : List Fld→Tree→Prop} {V:Int} {f:Fld} {t:Tree}
theorem FitWF.listL (h:FitWF P V f t) (hk:f.kind=11) {L:List Tree} (hL:L=if nullS f V t=true then [] else t.l):L.length≤32767∧∀ x∈L,Fit1 P f.of f.sub x:=by
 subst hL
 split
 ·exact ⟨by simp,fun x hx=>by cases hx⟩
 ·exact h.list hk
variable {pt : List Fld→Int→Bool→Tree→List UInt8} {flex:Bool}
end
end Ms

namespace Ms
open Go.World renaming size_alloc → qI
open Ms renaming size_wr → qJ,size_drew → qK,not_noB → qL
open W renaming seqF → qA,seq → qB,regF → qC,condK → qD,block → qE,skip → qF,ret → qG,exit → qH
set_option maxRecDepth 4000
open Go Go.Proofs Go.Shelf
attribute [local congr] W_congr WPsq_congr WPp_congr optK_congr addrK_congr intK_congr boolK_congr sliceK_congr tupleK_congr funcK_congr Fn_congr rawK_congr takeK_congr stepK_congr convK_congr aggK_congr

theorem textTree_fn {ok:Blocks} (v:Value) (null:Bool) (s:List UInt8) (w:World) (h:PtrText ok w v null s) :
  Fn Tryz.prog 28 #[v] w fun r w'=>(∃ vS,r = .agg #[.int .i64 0,vS,.bool null,.slice none 0 0,.slice none 0 0]∧BytesV (fun b=>w.heap.size≤b) w' vS (if null=true then [] else s))∧Ext w w':=by
 have hE1:Ext w (w.alloc (.cells #[.int .i64 0,.slice none 0 0,.bool false,.slice none 0 0,.slice none 0 0] 37)):=Upd.alloc (Upd.refl _ _) _
 have hb1:blk (w.alloc (.cells #[.int .i64 0,.slice none 0 0,.bool false,.slice none 0 0,.slice none 0 0] 37)) w.heap.size=some (#[.int .i64 0,.slice none 0 0,.bool false,.slice none 0 0,.slice none 0 0],37,(0,0)):=blk_alloc_new rfl
 have hz1:(w.alloc (.cells #[.int .i64 0,.slice none 0 0,.bool false,.slice none 0 0,.slice none 0 0] 37)).heap.size=w.heap.size+1:=World.size_alloc _ _
 refine fn_of_W Tryz.func28 rfl Tryz.results28 Tryz.ntmps28 rfl ?_
 unfold PtrText at h
 cases null with
 | true =>
  rw [if_pos rfl] at h ⊢;subst h
  repeat ((first|refine qA ?_|apply qB|refine qC ?_|apply qD|apply qE|apply qF|apply qG|apply qH);try simp (disch:=(first|omega|(simp only [qI,qJ,qK]<;>omega)|exact qL _)) only [go_sem,cellsAt_five])
  refine ⟨⟨_,rfl,BytesV.nil _ _⟩,hE1.wr _ _ (.inl (Nat.le_refl _))⟩
 | false =>
  rw [if_neg (by decide)] at h ⊢
  obtain ⟨b,o,x,rfl,_,hb,hx⟩:=h
  have hbl:=blk_lt hb
  have hb':=hE1.blk_some hb id
  repeat ((first|refine qA ?_|apply qB|refine qC ?_|apply qD|apply qE|apply qF|apply qG|apply qH);try simp (disch:=(first|omega|(simp only [qI,qJ,qK]<;>omega)|exact qL _)) only [go_sem,hb,hx])
  generalize (w.alloc (.cells #[.int .i64 0,.slice none 0 0,.bool false,.slice none 0 0,.slice none 0 0] 37))=w1 at *
  refine wp_octets (S:=9) (T:=22) (E:=5) (s:=s) (by kernel_rfl) (by kernel_rfl) (by kernel_rfl) (by first|rfl|simp (disch:=(first|omega|(simp only [qI,qJ,qK]<;>omega)|exact qL _)) only [go_sem]) ?_
  intro a k w' a8 hE
  have hB:=a8.weaken (ok':=fun b=>w.heap.size+1≤b) fun b _ hk=>by omega
  have hb2:=hE.blk_some hb1 id
  have hz2:=hE.size
  have hfl:=hB.flat
  simp (disch:=(first|omega|(simp only [qI,qJ,qK]<;>omega)|exact qL _)) only [go_sem,hb2,hfl]
  repeat ((first|refine qA ?_|apply qB|refine qC ?_|apply qD|apply qE|apply qF|apply qG|apply qH);try simp (disch:=(first|omega|(simp only [qI,qJ,qK]<;>omega)|exact qL _)) only [go_sem,hb2,hfl,cellsAt_five])
  refine ⟨⟨_,rfl,?_⟩,(hE1.trans hE).wr _ _ (.inl (Nat.le_refl _))⟩
  exact (hB.keep (((Upd.refl (fun b=>b=w.heap.size) _).wr _ _ (.inr rfl)).keeps fun b _ hk e=>by omega)).weaken fun b _ hk=>by omega

theorem sorted_fn {ok:Blocks} (v:Value) (u:List TagD) (w:World) (h:TagsV ok w v u) (hs:(u.map (·.1)).Pairwise (· < ·)) (hl:u.length≤32767):Fn Tryz.prog 34 #[v] w fun _ w'=>Ext w w':=by
 obtain ⟨a,c,rfl,_⟩:=SlR.shape h
 refine fn_of_W Tryz.func34 rfl Tryz.results34 Tryz.ntmps34 rfl ?_
 repeat ((first|refine qA ?_|apply qB|refine qC ?_|apply qD|apply qE|apply qF|apply qG|apply qH);try simp (disch:=(first|omega|(simp only [qI,qJ,qK]<;>omega)|exact qL _)) only [go_sem])
 refine W.exitJ 0 (EndQ [] (fun w'=>Ext w w'))
  (W.loop (LoopL [(5,.int .i64 u.length),(0,.slice a u.length c)] 6 (fun j w'=>j≤u.length∧Ext w w')) (fun ρ _=>u.length - (RowKit.intOf (ρ 6)).toNat) ?_ ?_) ?_
 ·exact ⟨(by simp (disch:=(first|omega|(simp only [qI,qJ,qK]<;>omega)|exact qL _)) only [go_sem,Holds_nil,Holds_cons]),0,(by simp (disch:=(first|omega|(simp only [qI,qJ,qK]<;>omega)|exact qL _)) only [go_sem];all_goals rfl),Nat.zero_le _,Upd.refl _ _⟩
 ·rintro ρ w1 ⟨⟨h5,h0,-⟩,j,h6,hj,hE⟩
  by_cases hlt:j < u.length
  ·repeat ((first|refine qA ?_|apply qB|refine qC ?_|apply qD|apply qE|apply qF|apply qG|apply qH);try simp (disch:=(first|omega|(simp only [qI,qJ,qK]<;>omega)|exact qL _)) only [go_sem,h6,h5,h0])
   refine W.exitJ 2 (EndQ [(6,.int .i64 j),(5,.int .i64 u.length),(0,.slice a u.length c)] (fun w'=>Ext w w')) (W.loop (EndQ [(3,.int .i64 j),(6,.int .i64 j),(5,.int .i64 u.length),(0,.slice a u.length c)] (fun w'=>Ext w w')) (fun _ _=>0) ?_ ?_) ?_
   ·exact ⟨(by simp (disch:=(first|omega|(simp only [qI,qJ,qK]<;>omega)|exact qL _)) only [go_sem,Holds_nil,Holds_cons,h6,h5,h0]),hE⟩
   ·rintro ρ w2 ⟨⟨h3,h6,h5,h0,-⟩,hE2⟩
    by_cases hz:j=0
    ·subst hz
     have hc:¬ (0:Int) < ((0:Nat):Int):=by omega
     repeat ((first|refine qA ?_|apply qB|refine qC ?_|apply qD|apply qE|apply qF|apply qG|apply qH);try simp (disch:=(first|omega|(simp only [qI,qJ,qK]<;>omega)|exact qL _)) only [go_sem])
     refine W.drawR (.take 0 (.take 1 (.take 2 (.take 3 (.take 4 (.take 5 (.take 6 (.take 7 (.take 8 (.take 9 (.take 10 (.take 11 (.take 12 (.take 13 (.take 14 (.take 15 .done)))))))))))))))) NoB mixed (by kernel_rfl) ?_
     simp (disch:=(first|omega|(simp only [qI,qJ,qK]<;>omega)|exact qL _)) only [go_sem,h3,h0,hc]
     repeat ((first|refine qA ?_|apply qB|refine qC ?_|apply qD|apply qE|apply qF|apply qG|apply qH);try simp (disch:=(first|omega|(simp only [qI,qJ,qK]<;>omega)|exact qL _)) only [go_sem,h3,h0,hc])
     exact ⟨(by simp (disch:=(first|omega|(simp only [qI,qJ,qK]<;>omega)|exact qL _)) only [go_sem,Holds_nil,Holds_cons,h6,h5,h0]),hE2.drew⟩
    ·have hU:=h.keep (hE2.keeps _)
     obtain ⟨_,b,o,x,vv,hb,_,hx,_,hxs,_,q0,q1,_,_,h32⟩:=TagsV.get hU hlt
     obtain ⟨_,b',o',x',vv',hb',_,hx',_,hxs',_,q0',q1',_,_,h32'⟩:=TagsV.get hU (i:=j - 1) (by omega)
     subst hb
     cases hb'
     rw [hx] at hx';cases hx'
     have hle:u[j - 1].1 < u[j].1:=by
      have:=List.pairwise_iff_getElem.1 hs (j - 1) j (by simp;omega) (by simpa using hlt) (by omega)
      simpa using this
     generalize u[j].1=ka at *
     generalize u[j - 1].1=kb at *
     have hc:(0:Int) < (j:Int):=by omega
     have he:(j:Int) - 1=((j - 1:Nat):Int):=by omega
     have hd:¬ (ka:Int) < (kb:Int):=by omega
     repeat ((first|refine qA ?_|apply qB|refine qC ?_|apply qD|apply qE|apply qF|apply qG|apply qH);try simp (disch:=(first|omega|(simp only [qI,qJ,qK]<;>omega)|exact qL _)) only [go_sem])
     refine W.drawR (.take 0 (.take 1 (.take 2 (.take 3 (.take 4 (.take 5 (.take 6 (.take 7 (.take 8 (.take 9 (.take 10 (.take 11 (.take 12 (.take 13 (.take 14 (.take 15 .done)))))))))))))))) NoB mixed (by kernel_rfl) ?_
     simp (disch:=(first|omega|(simp only [qI,qJ,qK]<;>omega)|exact qL _)) only [go_sem,h3,h0,hc,he,hx,q0,q0',hd,Int.toNat_natCast]
     repeat ((first|refine qA ?_|apply qB|refine qC ?_|apply qD|apply qE|apply qF|apply qG|apply qH);try simp (disch:=(first|omega|(simp only [qI,qJ,qK]<;>omega)|exact qL _)) only [go_sem,h3,h0,hc,he,hx,q0,q0',hd,Int.toNat_natCast])
     exact ⟨(by simp (disch:=(first|omega|(simp only [qI,qJ,qK]<;>omega)|exact qL _)) only [go_sem,Holds_nil,Holds_cons,h6,h5,h0]),hE2.drew⟩
   ·rintro ρ w2 ⟨⟨h6,h5,h0,-⟩,hE2⟩
    repeat ((first|refine qA ?_|apply qB|refine qC ?_|apply qD|apply qE|apply qF|apply qG|apply qH);try simp (disch:=(first|omega|(simp only [qI,qJ,qK]<;>omega)|exact qL _)) only [go_sem,h6,h5,h0])
    refine ⟨⟨(by simp (disch:=(first|omega|(simp only [qI,qJ,qK]<;>omega)|exact qL _)) only [go_sem,Holds_nil,Holds_cons,h6,h5,h0]),j+1,(by simp (disch:=(first|omega|(simp only [qI,qJ,qK]<;>omega)|exact qL _)) only [go_sem,h6];all_goals rfl),by omega,hE2⟩,?_⟩
    try simp (disch:=(first|omega|(simp only [qI,qJ,qK]<;>omega)|exact qL _)) only [go_sem,h6]
    simp only [RowKit.intOf]
    omega
  ·repeat ((first|refine qA ?_|apply qB|refine qC ?_|apply qD|apply qE|apply qF|apply qG|apply qH);try simp (disch:=(first|omega|(simp only [qI,qJ,qK]<;>omega)|exact qL _)) only [go_sem,h6,h5])
   exact ⟨trivial,hE⟩
 ·rintro ρ w1 ⟨-,hE⟩
  repeat ((first|refine qA ?_|apply qB|refine qC ?_|apply qD|apply qE|apply qF|apply qG|apply qH);try simp (disch:=(first|omega|(simp only [qI,qJ,qK]<;>omega)|exact qL _)) only [go_sem])
  exact hE


set_option maxHeartbeats 1000000 in
theorem EachG_fn {ok:Blocks} (F:Nat) (hF:callable Tryz.prog F=true) (lb:Array Value) {tb to:Nat} {x:Blk} {m:Value} {u u0:List TagD} (w:World)
  (hb:blk w tb=some x) (hm:x.1[to]? = some m) (ht:TagsM ok w m u0) (hpm:u.Perm u0) (hs:(u.map (·.1)).Pairwise (· < ·)) (hlen:u.length≤32767)
  (S:Nat→Prop) (aQ:¬ S tb) (aR:∀ b,b < w.heap.size→ok b→¬ S b) (hS3:∀ b,S b→b < w.heap.size)
  (I:World→List TagD→World→Prop) (h0:∀ wl,Ext w wl→I wl [] wl)
  (hstep:∀ wl,Ext w wl→∀ done y vv w1,(done++[y]) <+: u→I wl done w1→Upd S wl w1→BytesV ok w vv y.2→y.1 < 2 ^ 32→Fn Tryz.prog F (#[.int .u32 y.1,vv]++lb) w1 fun _ w2=>I wl (done++[y]) w2∧Upd S wl w2) :
  Fn Tryz.prog 32 #[.pointer (some ⟨tb,to,none⟩),.func (.func F) #[] lb] w fun _ w'=>∃ wl,Ext w wl∧I wl u w'∧Upd S wl w':=by
 have hbl:=blk_lt hb
 refine fn_of_W Tryz.func32 rfl Tryz.results32 Tryz.ntmps32 rfl ?_
 have hul:=hpm.length_eq
 rcases ht with ⟨rfl,rfl⟩|⟨r,es,clock,rfl,hok,hr,hsz,he,hinj⟩
 ·obtain rfl:u=[]:=hpm.eq_nil
  repeat ((first|refine qA ?_|apply qB|refine qC ?_|apply qD|apply qE|apply qF|apply qG|apply qH);try simp (disch:=(first|omega|(simp only [qI,qJ,qK]<;>omega)|exact qL _)) only [go_sem,hb,hm])
  refine wp_len_nil tagsT rfl ?_
  simp (disch:=(first|omega|(simp only [qI,qJ,qK]<;>omega)|exact qL _)) only [go_sem]
  repeat ((first|refine qA ?_|apply qB|refine qC ?_|apply qD|apply qE|apply qF|apply qG|apply qH);try simp (disch:=(first|omega|(simp only [qI,qJ,qK]<;>omega)|exact qL _)) only [go_sem])
  exact ⟨w,Upd.refl _ _,h0 w (Upd.refl _ _),Upd.refl _ _⟩
 have hrl:=heap_lt hr
 repeat ((first|refine qA ?_|apply qB|refine qC ?_|apply qD|apply qE|apply qF|apply qG|apply qH);try simp (disch:=(first|omega|(simp only [qI,qJ,qK]<;>omega)|exact qL _)) only [go_sem,hb,hm])
 refine wp_len_map tagsT rfl hr ?_
 by_cases hz:u.length=0
 ·have hz1:(es.size:Int)=0:=by omega
  obtain rfl:u=[]:=List.eq_nil_of_length_eq_zero hz
  simp (disch:=(first|omega|(simp only [qI,qJ,qK]<;>omega)|exact qL _)) only [go_sem,hz1]
  repeat ((first|refine qA ?_|apply qB|refine qC ?_|apply qD|apply qE|apply qF|apply qG|apply qH);try simp (disch:=(first|omega|(simp only [qI,qJ,qK]<;>omega)|exact qL _)) only [go_sem])
  exact ⟨w,Upd.refl _ _,h0 w (Upd.refl _ _),Upd.refl _ _⟩
 have hz1:¬ (es.size:Int)=0:=by omega
 simp (disch:=(first|omega|(simp only [qI,qJ,qK]<;>omega)|exact qL _)) only [go_sem,hz1]
 repeat ((first|refine qA ?_|apply qB|refine qC ?_|apply qD|apply qE|apply qF|apply qG|apply qH);try simp (disch:=(first|omega|(simp only [qI,qJ,qK]<;>omega)|exact qL _)) only [go_sem,hb,hm])
 refine wp_len_map tagsT rfl hr ?_
 simp (disch:=(first|omega|(simp only [qI,qJ,qK]<;>omega)|exact qL _)) only [go_sem]
 refine wp_make (T:=122) (E:=60) (size:=1) (bytes:=4) (z:=.int .u32 0) (l:=0) (c:=es.size) (kl:=.i64) (kc:=.i64) (by kernel_rfl) (by kernel_rfl) (by simp (disch:=(first|omega|(simp only [qI,qJ,qK]<;>omega)|exact qL _)) only [go_sem];rfl) (by simp (disch:=(first|omega|(simp only [qI,qJ,qK]<;>omega)|exact qL _)) only [go_sem]) (by omega) (by omega) (by omega) ?_
 simp (disch:=(first|omega|(simp only [qI,qJ,qK]<;>omega)|exact qL _)) only [go_sem]
 have hsl:es.size≤32767:=by omega
 generalize hw2:(wr ((w.alloc (.cells (madeCells #[.int .u32 0] (es.size * 1)) 60)).alloc (.cells #[.slice none 0 0] 122)) (w.heap.size+1) 0 [.slice (some ⟨w.heap.size,0,none⟩) 0 es.size])=w2
 have hE2:Ext w w2:=by rw [← hw2];exact (Upd.alloc (Upd.alloc (Upd.refl _ _) _) _).wr _ _ (.inl (by omega))
 have hz2:w2.heap.size=w.heap.size+2:=by rw [← hw2];simp only [size_wr,World.size_alloc]
 have aO:blk w2 w.heap.size=some ((List.replicate es.size (.int .u32 0)).toArray,60,(0,0)):=by rw [← hw2];simp (disch:=(first|omega|(simp only [qI,qJ,qK]<;>omega)|exact qL _)) only [go_sem,made_one,Nat.mul_one]
 have hown2:Own w.heap.size w2 60 1 (.slice (some ⟨w.heap.size,0,none⟩) 0 es.size) 0 []:=⟨rfl,.inr ⟨w.heap.size,es.size,List.replicate es.size (.int .u32 0),(0,0),rfl,Nat.le_refl _,aO,by simp,thaw_00 _ _,Nat.zero_le _⟩⟩
 have aJ:blk w2 (w.heap.size+1)=some (#[.slice (some ⟨w.heap.size,0,none⟩) 0 es.size],122,(0,0)):=by rw [← hw2];simp (disch:=(first|omega|(simp only [qI,qJ,qK]<;>omega)|exact qL _)) only [go_sem]
 have hb2:blk w2 tb=some x:=hE2.blk_some hb id
 have aN:w2.heap[r]? = some (.map es clock):=by rw [hE2.keep r hrl id];exact hr
 clear hw2 aO
 repeat ((first|refine qA ?_|apply qB|refine qC ?_|apply qD|apply qE|apply qF|apply qG|apply qH);try simp (disch:=(first|omega|(simp only [qI,qJ,qK]<;>omega)|exact qL _)) only [go_sem,hb2,hm])
 refine wp_range tagsT rfl aN ?_
 simp (disch:=(first|omega|(simp only [qI,qJ,qK]<;>omega)|exact qL _)) only [go_sem]
 generalize hw3:w2.alloc (.mapIter (some r) clock #[] clock)=w3
 have hE3:Ext w w3:=by rw [← hw3];exact hE2.alloc _
 have hz3:w3.heap.size=w2.heap.size+1:=by rw [← hw3,World.size_alloc]
 have aY:w3.heap[w2.heap.size]? = some (.mapIter (some r) clock #[] clock):=by
  rw [← hw3];show (w2.heap.push _)[w2.heap.size]? = _;simp
 have hown3:Own w.heap.size w3 60 1 (.slice (some ⟨w.heap.size,0,none⟩) 0 es.size) 0 []:=by rw [← hw3];exact hown2.alloc _
 have aT:blk w3 (w.heap.size+1)=some (#[.slice (some ⟨w.heap.size,0,none⟩) 0 es.size],122,(0,0)):=by rw [← hw3,blk_alloc_old (by omega)];exact aJ
 clear hw3 hown2 aJ hb2 aN
 have hold:=tm_old hsz he
 have hnod:=tm_nodup hinj
 have hKU:=tm_keysU hsz he
 have hkeys:=tm_keys hsz he
 repeat ((first|refine qA ?_|apply qB|refine qC ?_|apply qD|apply qE|apply qF|apply qG|apply qH);try simp (disch:=(first|omega|(simp only [qI,qJ,qK]<;>omega)|exact qL _)) only [go_sem])
 refine W.exitJ 0 (fun ρ w'=>∃ seen xs l rest v,Ranged es seen xs l rest∧(leftOf es seen).size=0∧blk w' (w.heap.size+1)=some (#[v],122,(0,0))∧Own w.heap.size w' 60 1 v xs.length (xs.map u32V)∧Ext w w' ∧
   ρ 0 = .pointer (some ⟨tb,to,none⟩)∧ρ 1 = .func (.func F) #[] lb∧ρ 4 = .pointer (some ⟨w.heap.size+1,0,none⟩))
  (W.loop (fun ρ w'=>∃ seen xs l rest v,Ranged es seen xs l rest∧w'.heap[w2.heap.size]? = some (.mapIter (some r) clock seen clock)∧blk w' (w.heap.size+1)=some (#[v],122,(0,0))∧Own w.heap.size w' 60 1 v xs.length (xs.map u32V)∧Ext w w' ∧
   ρ 0 = .pointer (some ⟨tb,to,none⟩)∧ρ 1 = .func (.func F) #[] lb∧ρ 4 = .pointer (some ⟨w.heap.size+1,0,none⟩)∧ρ 24 = .pointer (some ⟨w2.heap.size,0,none⟩))
   (fun _ w'=>es.size - lenBox (blk w' (w.heap.size+1))) ?_ ?_) ?_
 ·refine ⟨#[],[],[],es.toList,_,Ranged.start es,aY,aT,hown3,hE3,?_,?_,?_,?_⟩<;>simp (disch:=(first|omega|(simp only [qI,qJ,qK]<;>omega)|exact qL _)) only [go_sem]
 ·rintro ρ w4 ⟨seen,xs,l,rest,v,hR,hit,hbx,hown,hE4,h0',h1',h4,h24⟩
  have hr4:w4.heap[r]? = some (.map es clock):=by rw [hE4.keep r hrl id];exact hr
  have hz4:=hE4.size
  have hitl:=heap_lt hit
  obtain ⟨va,vc,rfl,hvc⟩:=hown.shape
  have hlb:lenBox (blk w4 (w.heap.size+1))=xs.length:=by rw [hbx];rfl
  repeat ((first|refine qA ?_|apply qB|refine qC ?_|apply qD|apply qE|apply qF|apply qG|apply qH);try simp (disch:=(first|omega|(simp only [qI,qJ,qK]<;>omega)|exact qL _)) only [go_sem])
  refine wp_next (r:=w2.heap.size) (by simp (disch:=(first|omega|(simp only [qI,qJ,qK]<;>omega)|exact qL _)) only [go_sem,h24]) hit hr4 hold (Nat.le_refl _) ?_ ?_
  ·intro aF
   simp (disch:=(first|omega|(simp only [qI,qJ,qK]<;>omega)|exact qL _)) only [go_sem]
   repeat ((first|refine qA ?_|apply qB|refine qC ?_|apply qD|apply qE|apply qF|apply qG|apply qH);try simp (disch:=(first|omega|(simp only [qI,qJ,qK]<;>omega)|exact qL _)) only [go_sem])
   exact ⟨seen,xs,l,rest,_,hR,aF,hbx,hown,hE4,h0',h1',h4⟩
  ·intro e hel w5 hw5
   obtain ⟨rest',hR',hlt⟩:=hR.step hel
   obtain ⟨hee,_⟩:=mem_leftOf hel
   obtain ⟨kn,hkn⟩:=hKU e hee
   have hknn:e.key=u32V (keyN e):=by
    obtain ⟨i,hi,rfl⟩:=List.getElem_of_mem hee
    simp only [Array.length_toList] at hi
    have:=(he i (by omega) hi).1.key
    simp only [Array.getElem_toList,keyN,this]
    simp [u32V]
   have aI:Ext w4 w5:=by rcases hw5 with rfl|rfl;exact Upd.refl _ _;exact (Upd.refl _ _).drew
   have aE:w5.heap=w4.heap:=by rcases hw5 with rfl|rfl<;>rfl
   generalize hw6:Go.ChangeMaps.setBlock w5 w2.heap.size (.mapIter (some r) clock (seen.push e.born) clock)=w6
   have hE6:Ext w w6:=by rw [← hw6];exact (hE4.trans aI).setBlock _ _ (.inl (by omega))
   have hU6:Upd (fun b=>b=w2.heap.size) w5 w6:=by rw [← hw6];exact (Upd.refl _ _).setBlock _ _ (.inr rfl)
   have hz6:w6.heap.size=w4.heap.size:=by rw [← hw6,setBlock_size,aE]
   have aK:w6.heap[w2.heap.size]? = some (.mapIter (some r) clock (seen.push e.born) clock):=by rw [← hw6,setBlock_same _ _ _ (by rw [aE];exact hitl)]
   have hr6:w6.heap[r]? = some (.map es clock):=by rw [hE6.keep r hrl id];exact hr
   have aB:blk w5 (w.heap.size+1)=some (#[.slice va xs.length vc],122,(0,0)):=by rw [blk_of_heap (w:=w4) (w':=w5) (by rw [aE])];exact hbx
   have aC:blk w6 (w.heap.size+1)=some (#[.slice va xs.length vc],122,(0,0)):=hU6.blk_some aB (by omega)
   have hne:¬ ownB (.slice va xs.length vc) w2.heap.size:=own_ne hown fun y hy=>by
    unfold blk at hy;rw [hit] at hy;cases hy
   have aG:Own w.heap.size w6 60 1 (.slice va xs.length vc) xs.length (xs.map u32V):=Own.upd (Own.upd hown aI fun _ _ h=>h) hU6 fun b hb e=>hne (e ▸ hb)
   clear hw6
   have hkv:e.key = .int .u32 (keyN e:Nat):=hknn
   clear hknn hkn
   generalize keyN e=kk at *
   simp (disch:=(first|omega|(simp only [qI,qJ,qK]<;>omega)|exact qL _)) only [go_sem]
   repeat ((first|refine qA ?_|apply qB|refine qC ?_|apply qD|apply qE|apply qF|apply qG|apply qH);try simp (disch:=(first|omega|(simp only [qI,qJ,qK]<;>omega)|exact qL _)) only [go_sem])
   refine wp_entry (e:=e) (by simp (disch:=(first|omega|(simp only [qI,qJ,qK]<;>omega)|exact qL _)) only [go_sem,h24]) aK hr6 hee hnod ?_
   simp (disch:=(first|omega|(simp only [qI,qJ,qK]<;>omega)|exact qL _)) only [go_sem,hkv]
   repeat ((first|refine qA ?_|apply qB|refine qC ?_|apply qD|apply qE|apply qF|apply qG|apply qH);try simp (disch:=(first|omega|(simp only [qI,qJ,qK]<;>omega)|exact qL _)) only [go_sem,aC,h4,hkv])
   refine wp_append ap_122_122 (m:=1) (news:=[.int .u32 kk]) (n:=xs.length) (cs:=xs.map u32V) (v:=.slice va xs.length vc) ?_ rfl (aG.alloc (.cells #[.int .u32 kk] 60)) ?_ (Src.blk (fr:=(0,0)) (T:=60) (blk_alloc_new rfl) rfl rfl) ?_ ?_ ?_
   ·simp (disch:=(first|omega|(simp only [qI,qJ,qK]<;>omega)|exact qL _)) only [go_sem]
   ·simp only [List.all_map,List.all_eq_true];intro _ _;rfl
   ·simp only [World.size_alloc];omega
   ·have:=hR.len;omega
   intro v' w7 ho7 hu7 bB
   obtain ⟨a7,c7,rfl,hc7⟩:=ho7.shape
   have b7:¬ ownB (.slice va xs.length vc) (w.heap.size+1):=own_ne aG fun y hy=>by rw [aC] at hy;cases hy;exact (by decide:(122:Nat)≠60)
   have hit6':¬ ownB (.slice va xs.length vc) w2.heap.size:=hne
   have hE7:Ext w w7:=Upd.more (hE6.alloc (.cells #[.int .u32 kk] 60)) hu7 fun b hb ho=>by have:=aG.above ho;omega
   have aD:blk w7 (w.heap.size+1)=some (#[.slice va xs.length vc],122,(0,0)):=hu7.blk_some (by rw [blk_alloc_old (by omega)];exact aC) b7
   have aM:w7.heap[w2.heap.size]? = some (.mapIter (some r) clock (seen.push e.born) clock):=by
    rw [hu7.keep _ (by simp only [World.size_alloc];omega) hit6',RowKit.Below.heap_alloc _ _ _ (by omega)];exact aK
   simp (disch:=(first|omega|(simp only [qI,qJ,qK]<;>omega)|exact qL _)) only [go_sem,aD,h4]
   generalize hw8:wr w7 (w.heap.size+1) 0 [.slice a7 (xs.length+1) c7] = w8
   have hU8:Upd (fun b=>b=w.heap.size+1) w7 w8:=by rw [← hw8];exact (Upd.refl _ _).wr _ _ (.inr rfl)
   have hE8:Ext w w8:=by rw [← hw8];exact hE7.wr _ _ (.inl (by omega))
   have aV:blk w8 (w.heap.size+1)=some (#[.slice a7 (xs.length+1) c7],122,(0,0)):=by rw [← hw8,blk_wr_eq,aD];rfl
   have b9:¬ ownB (.slice a7 (xs.length+1) c7) (w.heap.size+1):=own_ne ho7 fun y hy=>by rw [aD] at hy;cases hy;exact (by decide:(122:Nat)≠60)
   have bA:Own w.heap.size w8 60 1 (.slice a7 (xs.length+1) c7) (xs++[kk]).length ((xs++[kk]).map u32V):=by
    have:=ho7.upd hU8 (fun b hb e=>b9 (e ▸ hb))
    simpa [u32V] using this
   have aZ:w8.heap[w2.heap.size]? = some (.mapIter (some r) clock (seen.push e.born) clock):=by rw [hU8.keep _ (heap_lt aM) (by omega)];exact aM
   have hlb8:lenBox (blk w8 (w.heap.size+1))=xs.length+1:=by rw [aV];rfl
   clear hw8
   simp (disch:=(first|omega|(simp only [qI,qJ,qK]<;>omega)|exact qL _)) only [go_sem,h0',h1',h4,h24]
   refine ⟨⟨_,_,_,_,_,hR',aZ,rfl,bA,hE8⟩,?_⟩
   rw [hlb];show es.size - (xs.length+1) < _;omega
 ·rintro ρ w4 ⟨seen,xs,l,rest,v,hR,aF,hbx,hown,hE4,h0',h1',h4⟩
  have hperm:=hR.done aF hnod
  rw [hkeys] at hperm
  have hxl:xs.length=u.length:=by rw [hperm.length_eq,List.length_map,hul]
  rcases hown.2 with ⟨_,h⟩|⟨g,cap,rest2,fr,rfl,hg,hgb,hgl,hth,hcap⟩
  ·omega
  have hne:w.heap.size+1≠g:=fun e=>by
   rw [e] at hbx;rw [hbx] at hgb;simp at hgb
  have bC:=blk_lt hgb
  repeat ((first|refine qA ?_|apply qB|refine qC ?_|apply qD|apply qE|apply qF|apply qG|apply qH);try simp (disch:=(first|omega|(simp only [qI,qJ,qK]<;>omega)|exact qL _)) only [go_sem,hbx,h4])
  refine (sort_fn (row:=g) (c:=cap) (b4:=w.heap.size+1) (N:=cap * 1) xs.toArray w4 hgb hth (by simp;omega) hbx rfl hne (u.map (·.1)) (by simpa using hperm.trans (hpm.symm.map (·.1))) hs (by simp;omega)).mono ?_
  rintro r5 w5 ⟨hU5,aW⟩
  have hE5:Ext w w5:=Upd.more hE4 hU5 fun b hb e=>by omega
  have aB:blk w5 (w.heap.size+1)=some (#[.slice (some ⟨g,0,none⟩) xs.length cap],122,(0,0)):=hU5.blk_some hbx hne
  repeat ((first|refine qA ?_|apply qB|refine qC ?_|apply qD|apply qE|apply qF|apply qG|apply qH);try simp (disch:=(first|omega|(simp only [qI,qJ,qK]<;>omega)|exact qL _)) only [go_sem,aB,h4])
  refine W.exitJ 2 (fun ρ w'=>I w5 u w'∧Upd S w5 w')
   (W.loop (fun ρ w'=>∃ j:Nat,j≤u.length∧ρ 39 = .int .i64 j∧ρ 38 = .int .i64 xs.length∧ρ 37 = .slice (some ⟨g,0,none⟩) xs.length cap∧ρ 0 = .pointer (some ⟨tb,to,none⟩)∧ρ 1 = .func (.func F) #[] lb∧I w5 (u.take j) w'∧Upd S w5 w')
    (fun ρ _=>u.length - (RowKit.intOf (ρ 39)).toNat) ?_ ?_) ?_
  ·refine ⟨0,Nat.zero_le _,?_,?_,?_,?_,?_,h0 w5 hE5,Upd.refl _ _⟩<;>simp (disch:=(first|omega|(simp only [qI,qJ,qK]<;>omega)|exact qL _)) only [go_sem,h0',h1',h4]
   rfl
  ·rintro ρ w6 ⟨j,hj,aA,a8,aH,h0',h1',hI,hU⟩
   by_cases hlt:j < u.length
   ·have hnS:∀ b,w.heap.size≤b→¬ S b:=fun b hb h=>by have:=hS3 b h;omega
    have aX:blk w6 g=some (((u.map (·.1)).map u32V++rest2).toArray,60,fr):=hU.blk_some aW (hnS g hg)
    have hb6:blk w6 tb=some x:=hU.blk_some (hE5.blk_some hb id) aQ
    have hr6:w6.heap[r]? = some (.map es clock):=by
     rw [hU.keep r (Nat.lt_of_lt_of_le hrl hE5.size) (aR r hrl hok),hE5.keep r hrl id];exact hr
    have hlt':(j:Int) < (xs.length:Int):=by omega
    have hlt2:j < xs.length:=by omega
    have hx:(((u.map (·.1)).map u32V++rest2).toArray)[j]? = some (.int .u32 (u[j].1:Nat)):=by
     rw [List.getElem?_toArray,List.getElem?_append_left (by simp;omega)]
     simp [hlt,u32V]
    obtain ⟨i,hi,hie⟩:=List.getElem_of_mem (hpm.mem_iff.1 (List.getElem_mem hlt))
    obtain ⟨hte,_⟩:=he i hi (by omega)
    rw [hie] at hte
    have hpre:u.take j++[u[j]] <+: u:=by
     rw [← List.take_succ_eq_append_getElem hlt];exact List.take_prefix _ _
    have hst:=hstep w5 hE5 (u.take j) u[j] es[i].val w6 hpre hI hU hte.val hte.num
    have hsucc:u.take (j+1)=u.take j++[u[j]]:=List.take_succ_eq_append_getElem hlt
    have b6:(u0.map (·.1)).Nodup:=(hpm.map (·.1)).nodup_iff.1 (List.nodup_iff_pairwise_ne.2 (hs.imp fun h=>Nat.ne_of_lt h))
    have b5:∀ k (hk:k < es.size),k < i→es[k].key≠.int .u32 (u[j].1:Nat):=by
     intro k hk hkj h
     rw [(he k (by omega) hk).1.key] at h
     simp only [Value.int.injEq,true_and] at h
     have:=List.pairwise_iff_getElem.1 (List.nodup_iff_pairwise_ne.1 b6) k i (by simp;omega) (by simp;omega) hkj
     simp only [List.getElem_map,hie] at this
     omega
    have hk2:=hte.key
    generalize u[j] = y at *
    generalize hev:es[i].val=ev at *
    repeat ((first|refine qA ?_|apply qB|refine qC ?_|apply qD|apply qE|apply qF|apply qG|apply qH);try simp (disch:=(first|omega|(simp only [qI,qJ,qK]<;>omega)|exact qL _)) only [go_sem,aA,a8,aH,aX,hx,Int.toNat_natCast,Nat.mul_one,hb6,hm,h0',h1'])
    refine wp_lookup (i:=i) (n:=(y.1:Int)) tagsT u32T (by simp (disch:=(first|omega|(simp only [qI,qJ,qK]<;>omega)|exact qL _)) only [go_sem]) (by simp (disch:=(first|omega|(simp only [qI,qJ,qK]<;>omega)|exact qL _)) only [go_sem]) hr6 hKU (by omega) hk2 b5 ?_
    simp (disch:=(first|omega|(simp only [qI,qJ,qK]<;>omega)|exact qL _)) only [go_sem,hev,hF,h1']
    refine hst.mono ?_
    rintro r7 w7 ⟨aP,hU7⟩
    repeat ((first|refine qA ?_|apply qB|refine qC ?_|apply qD|apply qE|apply qF|apply qG|apply qH);try simp (disch:=(first|omega|(simp only [qI,qJ,qK]<;>omega)|exact qL _)) only [go_sem,aA])
    refine ⟨⟨j+1,by omega,?_,a8,aH,h0',h1',by rw [hsucc];exact aP,hU7⟩,?_⟩
    ·rfl
    ·simp only [RowKit.intOf];omega
   ·have hlt':¬ (j:Int) < (xs.length:Int):=by omega
    repeat ((first|refine qA ?_|apply qB|refine qC ?_|apply qD|apply qE|apply qF|apply qG|apply qH);try simp (disch:=(first|omega|(simp only [qI,qJ,qK]<;>omega)|exact qL _)) only [go_sem,aA,a8])
    have e:u.take j=u:=List.take_of_length_le (by omega)
    rw [e] at hI
    exact ⟨hI,hU⟩
  ·rintro ρ w6 ⟨hI,hU⟩
   repeat ((first|refine qA ?_|apply qB|refine qC ?_|apply qD|apply qE|apply qF|apply qG|apply qH);try simp (disch:=(first|omega|(simp only [qI,qJ,qK]<;>omega)|exact qL _)) only [go_sem])
   exact ⟨w5,hE5,hI,hU⟩
end Ms

namespace Ms
open Go

abbrev ZT : List Value:=[.int .i64 0,.slice none 0 0,.bool false,.slice none 0 0,.slice none 0 0]
def TJ (OKB:Blocks) (LB:Nat) (E:TypeId) (n j:Nat) (Ts:List Tree) (w:World):Prop :=
 ∃ css:List (List Value),Css 5 css∧css.length=j∧All2 (TreeC OKB w) Ts css∧blk w LB=some ((css.flatten++zs ZT (n - j)).toArray,E,(0,0))
section
variable {OKB : Blocks} {LB:Nat} {E:TypeId} {n j:Nat} {Ts:List Tree} {w w':World}
theorem TJ.start (h:blk w LB=some ((zs ZT n).toArray,E,(0,0))):TJ OKB LB E n 0 [] w :=
 ⟨[],(fun _ h=>absurd h List.not_mem_nil:Css 5 []),rfl,⟨rfl,fun i h=>by simp at h⟩,by simpa using h⟩
theorem TJ.next (h:TJ OKB LB E n j Ts w) (hj:j < n):∃ A B:List Value,A.length=5 * j∧blk w LB=some ((A++(ZT++B)).toArray,E,(0,0)) ∧
  ∀ (w':World) (c:List Value) (T:Tree),c.length=5→blk w' LB=some ((A++(c++B)).toArray,E,(0,0))→TreeC OKB w' T c→Keeps OKB w w'→TJ OKB LB E n (j+1) (Ts++[T]) w':=by
 obtain ⟨css,h1,h2,h3,h4⟩:=h
 have hl:css.flatten.length=css.length * 5:=flatten_len h1
 refine ⟨css.flatten,zs ZT (n - (j+1)),by omega,?_,fun w' c T hc hb ht hk=>⟨css++[c],?_,by simp [h2],?_,?_⟩⟩
 ·rw [h4,show n - j=n - (j+1)+1 by omega,zs_succ]
 ·intro cs hm
  rcases List.mem_append.1 hm with hm|hm
  ·exact h1 cs hm
  ·simp only [List.mem_singleton] at hm;rw [hm];exact hc
 ·exact All2.snoc ⟨h3.1,fun i a b=>TreeC.keep hk (h3.2 i a b)⟩ ht
 ·rw [hb];simp
theorem TJ.keep {S:Nat→Prop} (h:TJ OKB LB E n j Ts w) (hu:Upd S w w') (h1:¬ S LB) (hk:Keeps OKB w w'):TJ OKB LB E n j Ts w':=by
 obtain ⟨css,g1,g2,g3,g4⟩:=h
 exact ⟨css,g1,g2,⟨g3.1,fun i a b=>TreeC.keep hk (g3.2 i a b)⟩,hu.blk_some g4 h1⟩
theorem TJ.trees (h:TJ OKB LB E n n Ts w):TreesV (fun b=>OKB b∨b=LB) w (.slice (some ⟨LB,0,none⟩) n n) Ts:=by
 obtain ⟨css,g1,g2,g3,g4⟩:=h
 subst g2
 refine ⟨css,⟨_,css.length,rfl,Nat.le_refl _,g1,.inr ⟨_,rfl,rfl,.inr rfl,_,g4,fun i hi => ?_⟩⟩,g3.1,fun i a b=>TreeC.weaken (fun _ _ h=>.inl h) (g3.2 i a b)⟩
 simp only [Nat.zero_add,List.getElem?_toArray]
 exact List.getElem?_append_left hi
end

def setDfL (t:Tree):List Fld→Nat→List Tree
 | [],_=>[]
 | f :: fs,i=>(if f.df=0 then t.at i else .num f.df) :: setDfL t fs (i+1)
def setDf (fs:List Fld) (t:Tree):Tree:=.mk t.n t.s t.null (setDfL t fs 0) t.u
theorem setDfL_get (t:Tree):∀ (fs:List Fld) (i k:Nat) (h:k < fs.length),(setDfL t fs i).getD k .zero=if fs[k].df=0 then t.at (i+k) else .num fs[k].df
 | f :: fs,i,0,h=>by simp [setDfL]
 | f :: fs,i,k+1,h=>by
  have:=setDfL_get t fs (i+1) k (by simpa using h)
  simp only [setDfL,List.getD_cons_succ,List.getElem_cons_succ]
  rw [this,show i+1+k=i+(k+1) by omega]
theorem setDf_at (fs:List Fld) (t:Tree) (k:Nat) (h:k < fs.length):(setDf fs t).at k=if fs[k].df=0 then t.at k else .num fs[k].df:=by
 have:=setDfL_get t fs 0 k h
 rw [Nat.zero_add] at this
 exact this
def okNum (fs:List Fld):Bool:=fs.all fun f=>decide (f.df=0∨f.kind=0∨numK f.kind)
theorem setDf_good {d:Nat} {fs:List Fld} {t:Tree} (hn:okNum fs=true) (hdf:okDf (d+1) fs=true) (h:GoodP (d+1) fs t):GoodP (d+1) fs (setDf fs t):=by
 refine ⟨?_,h.2⟩
 have key:∀ (l:List Fld) (i:Nat),(∀ k (hk:k < l.length),∃ hk':i+k < fs.length,fs[i+k] = l[k])→GoodL (GoodP d) t l i→GoodL (GoodP d) (setDf fs t) l i:=by
  intro l
  induction l with
  | nil=>intro _ _ _;trivial
  | cons f l ih =>
   intro i hl hg
   refine ⟨?_,ih (i+1) (fun k hk=>by
    obtain ⟨h1,h2⟩:=hl (k+1) (by simpa using hk)
    have e:i+(k+1)=i+1+k:=by omega
    refine ⟨by omega,?_⟩
    have h3:fs[i+1+k]'(by omega)=fs[i+(k+1)]:=by congr 1;omega
    rw [h3,h2];rfl) hg.2⟩
   obtain ⟨h1,h2⟩:=hl 0 (by simp)
   have h2':fs[i]'(by omega)=f:=by have:=h2;simpa using this
   rw [setDf_at fs t i (by omega),h2']
   split
   ·exact hg.1
   ·rename_i hd
    simp only [okNum,List.all_eq_true,decide_eq_true_eq] at hn
    have hf:f∈fs:=h2' ▸ List.getElem_mem _
    have hk:=(hn f hf).resolve_left hd
    have hk11:f.kind≠11:=by unfold numK at hk;omega
    unfold GoodF
    rw [if_neg hk11]
    exact good1_num (okDf_f hdf hf).1 (by unfold numK at hk;omega)
 exact key fs 0 (fun k hk=>⟨by omega,by simp⟩) h.1
theorem defaults_told {d:Nat} {fs:List Fld} {t:Tree} (hn:okNum fs=true):∀ i (h:i < fs.length),fs[i].df=0∨((tlP (d+1) fs (setDf fs t)).at i).n=numS fs[i].kind fs[i].df:=by
 intro i h
 by_cases hd:fs[i].df=0
 ·exact .inl hd
 ·refine .inr ?_
  rw [tlP,Tree.at_mk,tlL_get _ _ fs 0 i h,Nat.zero_add,setDf_at fs t i h,if_neg hd]
  simp only [okNum,List.all_eq_true,decide_eq_true_eq] at hn
  have hk:=(hn _ (List.getElem_mem h)).resolve_left hd
  generalize fs[i] = f at *
  by_cases h0:f.kind=0
  ·simp [tlF,tl1,h0,Tree.num,Tree.n,numS]
   exact mod2_if _
  ·have hk':f.kind=1∨f.kind=2∨f.kind=3∨f.kind=4∨f.kind=5∨f.kind=6:=hk.resolve_left h0
   have h7:f.kind≠7:=by omega
   have h8:f.kind≠8:=by omega
   have h9:f.kind≠9:=by omega
   have h10:f.kind≠10:=by omega
   have h11:f.kind≠11:=by omega
   simp [tlF,tl1,h0,h7,h8,h9,h10,h11,Tree.num,Tree.n,numS]
theorem RepS.mk' {d:Nat} {fs:List Fld} {ok:Blocks} {w:World} {t:Tree} {c:List Value} {v:Value} (h:RepL (RepS true d) (szS true d) ok w t fs 0 c) (ht:TagsM ok w v t.u):RepS true (d+1) fs ok w t (c++[v]) :=
 ⟨c,[v],rfl,h,by rw [if_pos rfl];exact ⟨v,rfl,ht⟩⟩
end Ms

