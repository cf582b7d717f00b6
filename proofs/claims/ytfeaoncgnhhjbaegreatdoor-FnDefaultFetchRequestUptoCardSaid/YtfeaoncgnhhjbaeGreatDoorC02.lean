/- A part of the proof: see the last text. -/
import Derived.ProofKit
import Derived.SizedLaws
import Derived.Attr
import Derived.Test.YtfeaoncgnhhjbaeGreatDoorProg
import Derived.KernelRfl
import Derived.Maps.RangeRun
import Derived.Test.YtfeaoncgnhhjbaeGreatDoorC01
set_option linter.unusedSimpArgs false
set_option linter.unusedVariables false
namespace Ms
open Go

structure AppR (E:TypeId) (B:Nat) (w:World) (v:Value) (s add:List UInt8) (r:Value) (w':World):Prop where
 own:OwnBy E B w' r (s++add)
 upd:Upd (ownB v) w w'
 frame:∀ b,ownB r b→ownB v b∨w.heap.size≤b
theorem AppR.trans {E:TypeId} {B:Nat} {w w1 w2:World} {v r1 r2:Value} {s a b:List UInt8} (h1:AppR E B w v s a r1 w1) (h2:AppR E B w1 r1 (s++a) b r2 w2):AppR E B w v s (a++b) r2 w2:=by
 refine ⟨by rw [← List.append_assoc];exact h2.own,?_,?_⟩
 ·refine ⟨h2.upd.os.trans h1.upd.os,h2.upd.tape.trans h1.upd.tape,h2.upd.output.trans h1.upd.output,Nat.le_trans h1.upd.size h2.upd.size,fun b hb hn => ?_⟩
  rw [h2.upd.keep b (Nat.lt_of_lt_of_le hb h1.upd.size) (fun h=>(h1.frame b h).elim hn (fun h=>by omega)),h1.upd.keep b hb hn]
 ·intro b hb
  rcases h2.frame b hb with h|h
  ·exact h1.frame b h
  ·exact .inr (Nat.le_trans h1.upd.size h)
theorem AppR.refl {E:TypeId} {B:Nat} {w:World} {v:Value} {s:List UInt8} (h:OwnBy E B w v s):AppR E B w v s [] v w:=⟨by rw [List.append_nil];exact h,Upd.refl _ _,fun _ h=>.inl h⟩
theorem AppR.after {E:TypeId} {B:Nat} {w w1 w2:World} {v r:Value} {s a:List UInt8} (h0:Ext w w1) (h:AppR E B w1 v s a r w2):AppR E B w v s a r w2 :=
 ⟨h.own,(h0.mono fun _ h=>h.elim).trans h.upd,fun b hb=>(h.frame b hb).imp id fun h=>Nat.le_trans h0.size h⟩
theorem AppR.then {E:TypeId} {B:Nat} {w w1 w2:World} {v r:Value} {s a:List UInt8} (h:AppR E B w v s a r w1) (h0:Ext w1 w2):AppR E B w v s a r w2 :=
 ⟨h.own.upd h0 (fun _ _ h=>h),h.upd.trans (h0.mono fun _ h=>h.elim),h.frame⟩
theorem AppR.of {E:TypeId} {B:Nat} {w w':World} {v r:Value} {s t:List UInt8} {n:Nat} (ho:Own B w' E 1 r n (s.map byteV++t.map byteV)) (hn:n=s.length+t.length) (hu:Upd (ownB v) w w') (hf:∀ b,ownB r b→ownB v b∨w.heap.size≤b):AppR E B w v s t r w' :=
 ⟨OwnBy.app ho hn,hu,hf⟩


def Tree.setNull (t:Tree) (b:Bool):Tree:=.mk t.n t.s b t.l t.u
theorem Upd.more {S S':Nat→Prop} {w w1 w2:World} (h1:Upd S w w1) (h2:Upd S' w1 w2) (h:∀ b,b < w.heap.size→S' b→S b):Upd S w w2 :=
 ⟨h2.os.trans h1.os,h2.tape.trans h1.tape,h2.output.trans h1.output,Nat.le_trans h1.size h2.size,fun b hb hn=>by
  rw [h2.keep b (Nat.lt_of_lt_of_le hb h1.size) (fun hs=>hn (h b hb hs)),h1.keep b hb hn]⟩
inductive Lists : Tree→Prop
 | mk {n:Int} {s:List UInt8} {null:Bool} {l:List Tree} {u:List TagD} (hl:l.length≤32767) (hu:u.length≤32767) (he:∀ i (h:i < l.length),Lists l[i]):Lists (.mk n s null l u)
theorem Lists.setNull {t:Tree} (h:Lists t) (b:Bool):Lists (t.setNull b):=by
 cases h with
 | mk hl hu he=>exact .mk hl hu he
theorem Lists.nil (n:Int) (s:List UInt8) (null:Bool):Lists (.mk n s null [] []):=.mk (by simp) (by simp) (fun i h=>by simp at h)
theorem insTag_len' (K:Nat) (out:List TagD) (t:TagD):(insTag K out t).length≤out.length+1:=by
 unfold insTag
 split
 ·omega
 ·have:=congrArg List.length (List.takeWhile_append_dropWhile (p:=fun x:TagD=>decide (x.1 < t.1)) (l:=out))
  simp only [List.length_append,List.length_cons] at this ⊢;omega
theorem unknownS_len' (fs:List Fld) (l:List TagD):(unknownS fs l).length≤32767:=by
 have:∀ (l:List TagD) (out:List TagD),(l.foldl (insTag (knownS fs)) out).length≤out.length+l.length:=by
  intro l
  induction l with
  | nil=>intro out;simp
  | cons t l ih=>intro out;have h1:=ih (insTag (knownS fs) out t);have h2:=insTag_len' (knownS fs) out t;simp only [List.foldl_cons,List.length_cons];omega
 have h:=this (l.take 32767) []
 simp only [List.length_nil,List.length_take] at h
 unfold unknownS;omega
def okN (ok:Blocks) (n:Nat):Blocks:=fun b=>ok b∨n≤b
structure GrowT (ok:Blocks) (B tb:Nat) (w:World) (T:TypeId) (v:Value) (xs:List Tree):Prop where
 ex:∃ css,OwnE B w T 5 v css∧All2 (TreeC (fun b=>ok b∧b≠tb∧¬ ownB v b) w) xs css
theorem flat_tree {ok:Blocks} {w:World} {t:Tree} {cs:List Value} (h:TreeC ok w t cs):cs.all flat=true∧cs.length=5:=by
 obtain ⟨vS,vL,vU,rfl,_,h1,h2,h3⟩:=h.inv
 refine ⟨?_,rfl⟩
 simp only [List.all_cons,h1.flat,SlR.flat h2,SlR.flat h3,flat_int,flat_bool,List.all_nil,Bool.and_self]
theorem all2_flat_tree {ok:Blocks} {w:World} {ts:List Tree} {css:List (List Value)} (h:All2 (TreeC ok w) ts css):css.flatten.all flat=true:=by
 refine all_flatten fun cs hm => ?_
 obtain ⟨i,hi,rfl⟩:=List.getElem_of_mem hm
 exact (flat_tree (h.2 i (by have:=h.1;omega) hi)).1
theorem GrowT.nil (ok:Blocks) (B tb:Nat) (w:World) (T:TypeId):GrowT ok B tb w T (.slice none 0 0) [] :=
 ⟨[],OwnE.nil _ _ _ _,rfl,fun i h=>by simp at h⟩
theorem GrowT.shape {ok:Blocks} {B tb:Nat} {w:World} {T:TypeId} {v:Value} {xs:List Tree} (h:GrowT ok B tb w T v xs):∃ a c,v = .slice a xs.length c∧xs.length≤c:=by
 obtain ⟨css,h1,h2⟩:=h.ex
 obtain ⟨a,c,h3,h4⟩:=h1.shape
 rw [← h2.1] at h3 h4
 exact ⟨a,c,h3,h4⟩
theorem GrowT.above {ok:Blocks} {B tb:Nat} {w:World} {T:TypeId} {v:Value} {xs:List Tree} (h:GrowT ok B tb w T v xs) {b:Nat} (hb:ownB v b):B≤b:=by
 obtain ⟨css,h1,h2⟩:=h.ex;exact Own.above h1.1 hb
theorem GrowT.below {ok:Blocks} {B tb:Nat} {w:World} {T:TypeId} {v:Value} {xs:List Tree} (h:GrowT ok B tb w T v xs) {b:Nat} (hb:ownB v b):b < w.heap.size:=by
 obtain ⟨css,h1,h2⟩:=h.ex;exact Own.below h1.1 hb
theorem GrowT.upd {ok:Blocks} {B tb:Nat} {w w':World} {T:TypeId} {v:Value} {xs:List Tree} (h:GrowT ok B tb w T v xs) (u:Upd (fun b=>b=tb) w w') (ht:¬ ownB v tb):GrowT ok B tb w' T v xs:=by
 obtain ⟨css,h1,h2⟩:=h.ex
 exact ⟨css,h1.upd u (fun b hb e=>ht (e ▸ hb)),h2.imp fun _ _ h=>h.keep (u.keeps fun b _ hk e=>hk.2.1 e)⟩
theorem GrowT.ext {ok:Blocks} {B tb:Nat} {w w':World} {T:TypeId} {v:Value} {xs:List Tree} (h:GrowT ok B tb w T v xs) (u:Ext w w'):GrowT ok B tb w' T v xs:=by
 obtain ⟨css,h1,h2⟩:=h.ex
 exact ⟨css,h1.upd u (fun _ _ h=>h),h2.imp fun _ _ h=>h.keep (u.keeps _)⟩
theorem GrowT.snoc {ok:Blocks} {B tb:Nat} {w w':World} {T:TypeId} {v v':Value} {xs:List Tree} {x:Tree} {cs:List Value} {css:List (List Value)} (h1:OwnE B w T 5 v css)
  (h2:All2 (TreeC (fun b=>ok b∧b≠tb∧¬ ownB v b) w) xs css) (hx:TreeC (fun b=>ok b∧b≠tb∧¬ ownB v b) w x cs) (hu:Upd (ownB v) w w') (hf:∀ b,ownB v' b→ownB v b∨w.heap.size≤b)
  (ho:Own B w' T 5 v' (css.length+1) (css.flatten++cs)):GrowT ok B tb w' T v' (xs++[x]):=by
 have key:∀ t c,TreeC (fun b=>ok b∧b≠tb∧¬ ownB v b) w t c→TreeC (fun b=>ok b∧b≠tb∧¬ ownB v' b) w' t c:=fun t c hc=>by
  have hk:TreeC (fun b=>(ok b∧b≠tb∧¬ ownB v' b)∧¬ ownB v b) w t c:=hc.weaken fun b hb hk=>⟨⟨hk.1,hk.2.1,fun h=>(hf b h).elim hk.2.2 (fun h=>by omega)⟩,hk.2.2⟩
  exact (hk.keep (hu.keeps fun b _ hk=>hk.2)).weaken fun b _ hk=>hk.1
 refine ⟨css++[cs],OwnE.snoc h1.2 (flat_tree hx).2 ho rfl,by simp [h2.1],fun i h3 h4 => ?_⟩
 simp only [List.length_append,List.length_cons,List.length_nil] at h3 h4
 have h5:=h2.1
 by_cases hi:i < xs.length
 ·rw [List.getElem_append_left hi,List.getElem_append_left (by omega)]
  exact key _ _ (h2.2 i hi (by omega))
 ·have:i=xs.length:=by omega
  subst this
  rw [List.getElem_append_right (Nat.le_refl _),List.getElem_append_right (by omega)]
  simp only [Nat.sub_self,List.getElem_cons_zero,h5]
  exact key _ _ hx
theorem GrowT.trees {ok:Blocks} {B tb:Nat} {w:World} {T:TypeId} {v:Value} {xs:List Tree} (h:GrowT ok B tb w T v xs) {ok':Blocks} (h1:∀ b,b < w.heap.size→ok b→ok' b) (h2:∀ b,B≤b→ok' b):TreesV ok' w v xs:=by
 obtain ⟨css,h3,h4⟩:=h.ex
 exact ⟨css,h3.sl fun b hb=>h2 b (Own.above h3.1 hb),h4.imp fun _ _ h=>h.weaken fun b hb hk=>h1 b hb hk.1⟩

structure GrowU (ok:Blocks) (B tb:Nat) (w:World) (T:TypeId) (v:Value) (xs:List TagD):Prop where
 ex:∃ css,OwnE B w T 2 v css∧All2 (TagC (fun b=>ok b∧b≠tb∧¬ ownB v b) w) xs css
theorem flat_tag {ok:Blocks} {w:World} {t:TagD} {cs:List Value} (h:TagC ok w t cs):cs.all flat=true∧cs.length=2:=by
 obtain ⟨vv,rfl,h1,_⟩:=h
 refine ⟨?_,rfl⟩
 simp only [List.all_cons,h1.flat,flat_int,List.all_nil,Bool.and_self]
theorem GrowU.nil (ok:Blocks) (B tb:Nat) (w:World) (T:TypeId):GrowU ok B tb w T (.slice none 0 0) [] :=
 ⟨[],OwnE.nil _ _ _ _,rfl,fun i h=>by simp at h⟩
theorem GrowU.shape {ok:Blocks} {B tb:Nat} {w:World} {T:TypeId} {v:Value} {xs:List TagD} (h:GrowU ok B tb w T v xs):∃ a c,v = .slice a xs.length c∧xs.length≤c:=by
 obtain ⟨css,h1,h2⟩:=h.ex
 obtain ⟨a,c,h3,h4⟩:=h1.shape
 rw [← h2.1] at h3 h4
 exact ⟨a,c,h3,h4⟩
theorem GrowU.above {ok:Blocks} {B tb:Nat} {w:World} {T:TypeId} {v:Value} {xs:List TagD} (h:GrowU ok B tb w T v xs) {b:Nat} (hb:ownB v b):B≤b:=by
 obtain ⟨css,h1,h2⟩:=h.ex;exact Own.above h1.1 hb
theorem GrowU.below {ok:Blocks} {B tb:Nat} {w:World} {T:TypeId} {v:Value} {xs:List TagD} (h:GrowU ok B tb w T v xs) {b:Nat} (hb:ownB v b):b < w.heap.size:=by
 obtain ⟨css,h1,h2⟩:=h.ex;exact Own.below h1.1 hb
theorem GrowU.upd {ok:Blocks} {B tb:Nat} {w w':World} {T:TypeId} {v:Value} {xs:List TagD} (h:GrowU ok B tb w T v xs) (u:Upd (fun b=>b=tb) w w') (ht:¬ ownB v tb):GrowU ok B tb w' T v xs:=by
 obtain ⟨css,h1,h2⟩:=h.ex
 exact ⟨css,h1.upd u (fun b hb e=>ht (e ▸ hb)),h2.imp fun _ _ h=>h.keep (u.keeps fun b _ hk e=>hk.2.1 e)⟩
theorem GrowU.ext {ok:Blocks} {B tb:Nat} {w w':World} {T:TypeId} {v:Value} {xs:List TagD} (h:GrowU ok B tb w T v xs) (u:Ext w w'):GrowU ok B tb w' T v xs:=by
 obtain ⟨css,h1,h2⟩:=h.ex
 exact ⟨css,h1.upd u (fun _ _ h=>h),h2.imp fun _ _ h=>h.keep (u.keeps _)⟩
theorem GrowU.snoc {ok:Blocks} {B tb:Nat} {w w':World} {T:TypeId} {v v':Value} {xs:List TagD} {x:TagD} {cs:List Value} {css:List (List Value)} (h1:OwnE B w T 2 v css)
  (h2:All2 (TagC (fun b=>ok b∧b≠tb∧¬ ownB v b) w) xs css) (hx:TagC (fun b=>ok b∧b≠tb∧¬ ownB v b) w x cs) (hu:Upd (ownB v) w w') (hf:∀ b,ownB v' b→ownB v b∨w.heap.size≤b)
  (ho:Own B w' T 2 v' (css.length+1) (css.flatten++cs)):GrowU ok B tb w' T v' (xs++[x]):=by
 have key:∀ t c,TagC (fun b=>ok b∧b≠tb∧¬ ownB v b) w t c→TagC (fun b=>ok b∧b≠tb∧¬ ownB v' b) w' t c:=fun t c hc=>by
  have hk:TagC (fun b=>(ok b∧b≠tb∧¬ ownB v' b)∧¬ ownB v b) w t c:=hc.weaken fun b hb hk=>⟨⟨hk.1,hk.2.1,fun h=>(hf b h).elim hk.2.2 (fun h=>by omega)⟩,hk.2.2⟩
  exact (hk.keep (hu.keeps fun b _ hk=>hk.2)).weaken fun b _ hk=>hk.1
 refine ⟨css++[cs],OwnE.snoc h1.2 (flat_tag hx).2 ho rfl,by simp [h2.1],fun i h3 h4 => ?_⟩
 simp only [List.length_append,List.length_cons,List.length_nil] at h3 h4
 have h5:=h2.1
 by_cases hi:i < xs.length
 ·rw [List.getElem_append_left hi,List.getElem_append_left (by omega)]
  exact key _ _ (h2.2 i hi (by omega))
 ·have:i=xs.length:=by omega
  subst this
  rw [List.getElem_append_right (Nat.le_refl _),List.getElem_append_right (by omega)]
  simp only [Nat.sub_self,List.getElem_cons_zero,h5]
  exact key _ _ hx
theorem GrowU.tags {ok:Blocks} {B tb:Nat} {w:World} {T:TypeId} {v:Value} {xs:List TagD} (h:GrowU ok B tb w T v xs) {ok':Blocks} (h1:∀ b,b < w.heap.size→ok b→ok' b) (h2:∀ b,B≤b→ok' b):TagsV ok' w v xs:=by
 obtain ⟨css,h3,h4⟩:=h.ex
 exact ⟨css,h3.sl fun b hb=>h2 b (Own.above h3.1 hb),h4.imp fun _ _ h=>h.weaken fun b hb hk=>h1 b hb hk.1⟩

section
variable {H : Type} {enc:TypeId × Value→H} {P:Program} {w:World} {base:Nat} {spare:Nat→Bool} {held:Bool}

theorem all_choice {α:Type} {n:Nat} {R:Nat→α→Prop} (h:∀ i,i < n→∃ a,R i a):∃ l:List α,l.length=n∧∀ i (hi:i < l.length),R i l[i]:=by
 refine ⟨List.ofFn fun i:Fin n=>Classical.choose (h i.1 i.2),by simp,fun i hi => ?_⟩
 simp only [List.getElem_ofFn]
 exact Classical.choose_spec (h i (by simpa using hi))

theorem cells?_spec {a:Addr} {n:Nat} {cs:List Value} (h:w.cells? base a n=some cs):cs.length=n∧∀ k,k < n→w.cell? (a.add k)=cs[k]?:=by
 unfold World.cells? at h
 split at h
 ·refine ⟨by simpa using mapM_some_length h,fun k hk => ?_⟩
  exact mapM_some_get h k k (by simp [hk])
 ·cases h

theorem sl_elems {size:Nat} (hsz:0 < size) {a:Addr} {len cap:Nat} (hcap:len≤cap) {R:Nat→List Value→Prop} (h:∀ i,i < len→∃ cs,w.cells? base (a.add (i * size)) size=some cs∧R i cs) :
  ∃ css,Sl AnyB w size (.slice (some a) len cap) css∧css.length=len∧∀ i (hi:i < css.length),R i css[i]:=by
 obtain ⟨css,hl,hc⟩:=all_choice h
 refine ⟨css,?_,hl,fun i hi=>(hc i hi).2⟩
 have hs:∀ cs∈css,cs.length=size:=fun cs hm=>by
  obtain ⟨i,hi,rfl⟩:=List.getElem_of_mem hm
  exact (cells?_spec (hc i hi).1).1
 refine ⟨some a,cap,by rw [hl],by omega,hs,?_⟩
 rcases Nat.eq_zero_or_pos len with h0|h0
 ·exact .inl (List.eq_nil_of_length_eq_zero (by omega))
 ·right
  have key:∀ i (hi:i < css.length) k,k < size→w.cell? ((a.add (i * size)).add k)=(css[i])[k]?:=fun i hi k hk=>(cells?_spec (hc i hi).1).2 k hk
  obtain ⟨b,o,sp⟩:=a
  have a8:=key 0 (by omega) 0 hsz
  have aA:(css[0]'(by omega)).length=size:=hs _ (List.getElem_mem _)
  rw [Nat.zero_mul] at a8
  have hsp:sp=none:=by
   cases sp with
   | none=>rfl
   | some s =>
    exfalso
    have:w.cell? ((Addr.add ⟨b,o,some s⟩ 0).add 0)=none:=by
     show w.cell? ⟨b,o,some s⟩=none
     unfold World.cell?
     split<;>rfl
    rw [this,List.getElem?_eq_getElem (by omega)] at a8
    cases a8
  subst hsp
  have hadd:∀ i k,((⟨b,o,none⟩:Addr).add i).add k=⟨b,o+(i+k),none⟩:=fun i k=>by
   unfold Addr.add
   split<;>split<;>first|rfl|(subst_vars;rfl)|(rename_i h1 h2;first|rw [h1]|rw [h2])|skip
   all_goals simp_all [Nat.add_assoc]
  have key2:∀ i (hi:i < css.length) k,k < size→(blk w b).bind (fun x=>x.1[o+(i * size+k)]?)=(css[i])[k]?:=fun i hi k hk=>by
   have:=key i hi k hk
   rw [hadd,cell?_blk] at this
   exact this
  have hx:∃ x,blk w b=some x:=by
   have h:=key2 0 (by omega) 0 hsz
   rw [List.getElem?_eq_getElem (l:=css[0]'(by omega)) (by omega)] at h
   obtain ⟨x,hx,_⟩:=Option.bind_eq_some_iff.1 h
   exact ⟨x,hx⟩
  obtain ⟨x,hx⟩:=hx
  refine ⟨_,rfl,rfl,trivial,x,hx,fun j hj => ?_⟩
  have hfl:=flatten_len hs
  have hq:j / size < css.length:=by
   rw [Nat.div_lt_iff_lt_mul hsz];omega
  have hm:=Nat.mod_lt j hsz
  have e:j=j / size * size+j % size:=by rw [Nat.mul_comm];exact (Nat.div_add_mod j size).symm
  have h1:=key2 _ hq _ hm
  have h2:=flatten_get hs _ hq _ hm
  rw [hx,Option.bind_some,← e] at h1
  rw [← e] at h2
  rw [h1,h2]

structure TreeTy (P:Program) (y B N K S G U T L:TypeId):Prop where
 uy:P.underlying y=some (.int .u8)
 cy:P.cellsOf y=1
 b_y:P.bytesOf y=1
 uB:P.underlying B=some .bool
 cB:P.cellsOf B=1
 uN:P.underlying N=some (.int .i64)
 cN:P.cellsOf N=1
 uK:P.underlying K=some (.int .u32)
 cK:P.cellsOf K=1
 uS:P.underlying S=some (.slice y)
 cS:P.cellsOf S=1
 uG:∃ fs,P.underlying G=some (.struct fs)∧fs.toList.map (fun f=>(f.type,f.offset))=[(K,0),(S,1)]
 cG:P.cellsOf G=2
 bG:P.bytesOf G=32
 uU:P.underlying U=some (.slice G)
 cU:P.cellsOf U=1
 uT:∃ fs,P.underlying T=some (.struct fs)∧fs.toList.map (fun f=>(f.type,f.offset))=[(N,0),(S,1),(B,2),(L,3),(U,4)]
 cT:P.cellsOf T=5
 bT:P.bytesOf T=88
 uL:P.underlying L=some (.slice T)
 cL:P.cellsOf L=1

def Fits (P:Program) (t:TypeId) (d:DataW H):Prop:=(d.weights P t).all (·≤reachBytes)=true

theorem fits_all {e:TypeId} {ds:List (DataW H)} (h:(DataW.weightsAll P e ds).all (·≤reachBytes)=true):∀ d∈ds,Fits P e d:=by
 induction ds with
 | nil=>intro d hd;cases hd
 | cons x xs ih =>
  simp only [DataW.weightsAll,List.all_append,Bool.and_eq_true] at h
  intro d hd
  rcases List.mem_cons.1 hd with rfl|hd
  ·exact h.1
  ·exact ih h.2 d hd
theorem fits_slice {t e:TypeId} (ht:P.underlying t=some (.slice e)) {elems sp:List (DataW H)} (h:Fits P t (.slice elems sp)):(elems.length+sp.length) * P.bytesOf e≤reachBytes∧∀ d∈elems,Fits P e d:=by
 unfold Fits at h
 rw [DataW.weights] at h
 simp only [ht,List.all_cons,List.all_append,Bool.and_eq_true,decide_eq_true_eq] at h
 exact ⟨h.1,fits_all h.2.1⟩
theorem fits_each : ∀ {ts:List TypeId} {ds:List (DataW H)},(DataW.weightsEach P ts ds).all (·≤reachBytes)=true→∀ (i:Nat) (t:TypeId) (d:DataW H),ts[i]? = some t→ds[i]? = some d→Fits P t d
 | [],_,_,i,t,d,h1,_=>by simp at h1
 | _ :: _,[],_,i,t,d,_,h2=>by simp at h2
 | t0 :: ts,d0 :: ds,h,i,t,d,h1,h2=>by
  rw [DataW.weightsEach,List.all_append,Bool.and_eq_true] at h
  cases i with
  | zero =>
   simp only [List.getElem?_cons_zero,Option.some.injEq] at h1 h2
   subst h1;subst h2
   exact h.1
  | succ i =>
   simp only [List.getElem?_cons_succ] at h1 h2
   exact fits_each h.2 i t d h1 h2
theorem fits_struct {t:TypeId} {fs:Array Field} (ht:P.underlying t=some (.struct fs)) {parts:List (DataW H)} (h:Fits P t (.agg parts)):∀ (i:Nat) (f:Field) (d:DataW H),fs[i]? = some f→parts[i]? = some d→Fits P f.type d:=by
 intro i f d h1 h2
 unfold Fits at h
 rw [DataW.weights] at h
 simp only [ht] at h
 exact fits_each h i f.type d (by simp [h1]) h2

theorem trod_int' {t:TypeId} {k:IntKind} {fuel:Nat} {cs:List Value} {x:DataW H × List MemPlace} (ht:P.underlying t=some (.int k)) (h:DataW.trod enc P w base spare held fuel t cs=some x) :
  ∃ n,cs=[.int k n]∧(Lit.int k n).wf=true:=by
 obtain ⟨n,h1,_,h2⟩:=DataW.trod_int ht h
 exact ⟨n,h1,h2⟩
theorem wf_wrap_eq {k:IntKind} {n:Int} (h:(Lit.int k n).wf=true):k.wrap n=n:=by
 simp only [Lit.wf,Bool.and_eq_true,decide_eq_true_eq] at h
 cases k<;>simp [IntKind.wrap,IntKind.min,IntKind.max,IntKind.signed,IntKind.bits] at h ⊢<;>(try split)<;>omega
theorem trod_bool' {t:TypeId} {fuel:Nat} {cs:List Value} {x:DataW H × List MemPlace} (ht:P.underlying t=some .bool) (h:DataW.trod enc P w base spare held fuel t cs=some x) :
  ∃ b,cs=[.bool b]:=by
 cases fuel with
 | zero=>simp [DataW.trod] at h
 | succ n =>
  unfold DataW.trod at h
  rw [ht] at h
  split at h<;>simp_all

theorem struct_get {fs:Array Field} {l:List (TypeId × Nat)} (h:fs.toList.map (fun f=>(f.type,f.offset))=l) (i:Nat) (t:TypeId) (o:Nat) (hi:l[i]? = some (t,o)):∃ f,fs[i]? = some f∧f.type=t∧f.offset=o:=by
 rw [← h,List.getElem?_map,Option.map_eq_some_iff] at hi
 obtain ⟨f,hf,e⟩:=hi
 exact ⟨f,by simpa using hf,(Prod.mk.inj e).1,(Prod.mk.inj e).2⟩

variable {y B N K S G U T L:TypeId}
end
theorem Small.mono {B B':Nat} (hb:B≤B') {t:Tree} (h:Small B t):Small B' t:=by
 induction h with
 | mk hs hl hu he hd ih=>exact .mk (by omega) (by omega) (by omega) ih fun x hx=>Nat.le_trans (hd x hx) hb

attribute [go_sem ↓] step_move step_assign step_pick step_alloc step_box step_load step_store step_nilCheck step_fieldAddr step_indexAddr step_binOp step_not step_extract step_makeInterface step_makeFunc step_build step_buildSlice step_convert step_field step_slice step_call step_builtin step_make take_move take_pick take_nilCheck take_fieldAddr take_indexAddr take_binOp take_not take_convert take_slice take_load take_builtin WPsq_nil WPsq_cons wantedR_none wantedR_some WPp_done WPp_take WPp_only WPp_last WPp_two
attribute [go_sem] convK_int convK_slice convK_string aggK_agg guardV_some boolIs_bool boolIs_undef resK_nil resK_tmp resK_cell ldM_ok start_get set_apply put_some put_none ev_tmp ev_const ev_func ev_global optK_some addrK_ptr intK_int boolK_bool sliceK_slice tupleK_tuple funcK_func cells_agg cells_int cells_bool cells_slice cells_pointer cells_string cells_map cells_iface cells_func Array.getD_eq_getD_getElem? List.getElem?_toArray List.getElem?_cons_zero List.getElem?_cons_succ List.getElem?_nil Option.getD_some Option.getD_none Option.bind_some Option.map_some Option.map_none World.size_alloc size_wr size_drew blk_alloc_old blk_alloc_new blk_wr_eq blk_wr_ne blk_drew addOff_none Nat.zero_add Nat.add_zero Nat.add_assoc cellsAt_ok stO_eq thaw_00 plainB_len plainB_min plainB_max plainB_append plainB_copy plainV_slice plainV_string plainV_map plainV_min plainV_max plainV_append plainV_copy plainV_strV cells_strV flat_strV lenV_strV bltK_len bltK_min bltK_max List.map_toArray List.map_cons List.map_nil lenV_slice lenV_string minV_int maxV_int sliceV_slice sliceV_ptr binNil_eq isNilI_int isNilI_bool isNilI_slice isNilI_map isNilI_pointer isNilI_iface isNilI_nil isConstO_const isConstO_tmp binV_int binV_bool binV_slice binV_map binV_pointer binV_iface intV_add intV_sub intV_mul intV_rem intV_and intV_or intV_xor intV_shl intV_shr intV_eql intV_neq intV_lss intV_leq intV_gtr intV_geq eqV_eql eqV_neq convV_int fillL_nil fillL_cons bsl_nil bsl_cons wrArr_nil wrArr_cons List.setIfInBounds_toArray List.set_cons_zero List.set_cons_succ decide_true decide_false i64_wrap i32_wrap u32_wrap u64_wrap shlO_ok shrO_ok idxO_ok bnd_ok cells_byte beq_tt beq_tf beq_ft beq_ff Bool.false_eq_true Bool.true_and Bool.and_true Bool.not_true Bool.not_false Bool.true_or Bool.or_true Bool.false_or Bool.or_false true_and and_true List.size_toArray List.length_cons List.length_nil Array.size_empty Nat.le_refl Nat.zero_le thenQ_normal thenQ_ret thenQ_exit thenQ_goto blockQ_normal blockQ_ret blockQ_exit exitQ_exit normQ_normal endQ_ret endQ_normal resV_one resV_two resV_none List.all_cons List.all_nil flat_int flat_bool flat_slice flat_pointer flat_string flat_map flat_iface flat_nilI flat_func Array.append_empty Array.empty_append Option.isNone_some Option.isNone_none and_self eq_self dec_lt_t dec_lt_f dec_le_t dec_le_f dec_gt_t dec_gt_f dec_ge_t dec_ge_f beq_t beq_f bne_t bne_f true_imp_iff false_imp_iff
end Ms

namespace Ms
set_option maxRecDepth 4000
open Go Go.Proofs
theorem ap_122_122 : AppT Tryz.prog 122 122 60 1 4:=AppT.of (by kernel_rfl)
theorem ap_22_22 : AppT Tryz.prog 22 22 5 1 1:=AppT.of (by kernel_rfl)
theorem ap_23_23 : AppT Tryz.prog 23 23 26 5 88:=AppT.of (by kernel_rfl)
theorem ap_24_24 : AppT Tryz.prog 24 24 63 2 32:=AppT.of (by kernel_rfl)
theorem ar_82 : arrLen Tryz.prog 82=some 16:=nr (by kernel_rfl)
theorem ca_11 : callable Tryz.prog 11=true:=nr (by kernel_rfl)
theorem ca_12 : callable Tryz.prog 12=true:=nr (by kernel_rfl)
theorem ca_22 : callable Tryz.prog 22=true:=nr (by kernel_rfl)
theorem ca_23 : callable Tryz.prog 23=true:=nr (by kernel_rfl)
theorem ca_24 : callable Tryz.prog 24=true:=nr (by kernel_rfl)
theorem ca_25 : callable Tryz.prog 25=true:=nr (by kernel_rfl)
theorem ca_35 : callable Tryz.prog 35=true:=nr (by kernel_rfl)
theorem ca_36 : callable Tryz.prog 36=true:=nr (by kernel_rfl)
theorem ca_37 : callable Tryz.prog 37=true:=nr (by kernel_rfl)
theorem ca_38 : callable Tryz.prog 38=true:=nr (by kernel_rfl)
theorem ca_39 : callable Tryz.prog 39=true:=nr (by kernel_rfl)
theorem ca_40 : callable Tryz.prog 40=true:=nr (by kernel_rfl)
theorem ca_41 : callable Tryz.prog 41=true:=nr (by kernel_rfl)
theorem ca_42 : callable Tryz.prog 42=true:=nr (by kernel_rfl)
theorem ca_56 : callable Tryz.prog 56=true:=nr (by kernel_rfl)
theorem ca_57 : callable Tryz.prog 57=true:=nr (by kernel_rfl)
theorem ca_58 : callable Tryz.prog 58=true:=nr (by kernel_rfl)
theorem ca_70 : callable Tryz.prog 70=true:=nr (by kernel_rfl)
theorem ca_71 : callable Tryz.prog 71=true:=nr (by kernel_rfl)
theorem ca_72 : callable Tryz.prog 72=true:=nr (by kernel_rfl)
theorem ca_73 : callable Tryz.prog 73=true:=nr (by kernel_rfl)
theorem ca_74 : callable Tryz.prog 74=true:=nr (by kernel_rfl)
theorem ca_75 : callable Tryz.prog 75=true:=nr (by kernel_rfl)
theorem ca_76 : callable Tryz.prog 76=true:=nr (by kernel_rfl)
theorem ca_77 : callable Tryz.prog 77=true:=nr (by kernel_rfl)
theorem ca_78 : callable Tryz.prog 78=true:=nr (by kernel_rfl)
theorem ca_79 : callable Tryz.prog 79=true:=nr (by kernel_rfl)
theorem ca_80 : callable Tryz.prog 80=true:=nr (by kernel_rfl)
theorem ca_81 : callable Tryz.prog 81=true:=nr (by kernel_rfl)
theorem ca_82 : callable Tryz.prog 82=true:=nr (by kernel_rfl)
theorem ca_83 : callable Tryz.prog 83=true:=nr (by kernel_rfl)
theorem ca_90 : callable Tryz.prog 90=true:=nr (by kernel_rfl)
theorem ca_91 : callable Tryz.prog 91=true:=nr (by kernel_rfl)
theorem es_122 : elemSize Tryz.prog 122=some 1:=nr (by kernel_rfl)
theorem es_22 : elemSize Tryz.prog 22=some 1:=nr (by kernel_rfl)
theorem es_23 : elemSize Tryz.prog 23=some 5:=nr (by kernel_rfl)
theorem es_24 : elemSize Tryz.prog 24=some 2:=nr (by kernel_rfl)
theorem es_29 : elemSize Tryz.prog 29=some 8:=nr (by kernel_rfl)
theorem es_34 : elemSize Tryz.prog 34=some 5:=nr (by kernel_rfl)
theorem es_35 : elemSize Tryz.prog 35=some 2:=nr (by kernel_rfl)
theorem fo_104_0 : fieldOff Tryz.prog 104 0=some 0:=nr (by kernel_rfl)
theorem fo_104_1 : fieldOff Tryz.prog 104 1=some 1:=nr (by kernel_rfl)
theorem fo_26_0 : fieldOff Tryz.prog 26 0=some 0:=nr (by kernel_rfl)
theorem fo_26_1 : fieldOff Tryz.prog 26 1=some 1:=nr (by kernel_rfl)
theorem fo_26_2 : fieldOff Tryz.prog 26 2=some 2:=nr (by kernel_rfl)
theorem fo_26_3 : fieldOff Tryz.prog 26 3=some 3:=nr (by kernel_rfl)
theorem fo_26_4 : fieldOff Tryz.prog 26 4=some 4:=nr (by kernel_rfl)
theorem fo_31_0 : fieldOff Tryz.prog 31 0=some 0:=nr (by kernel_rfl)
theorem fo_31_1 : fieldOff Tryz.prog 31 1=some 1:=nr (by kernel_rfl)
theorem fo_37_0 : fieldOff Tryz.prog 37 0=some 0:=nr (by kernel_rfl)
theorem fo_37_1 : fieldOff Tryz.prog 37 1=some 1:=nr (by kernel_rfl)
theorem fo_37_2 : fieldOff Tryz.prog 37 2=some 2:=nr (by kernel_rfl)
theorem fo_37_3 : fieldOff Tryz.prog 37 3=some 3:=nr (by kernel_rfl)
theorem fo_37_4 : fieldOff Tryz.prog 37 4=some 4:=nr (by kernel_rfl)
theorem fo_50_0 : fieldOff Tryz.prog 50 0=some 0:=nr (by kernel_rfl)
theorem fo_50_1 : fieldOff Tryz.prog 50 1=some 1:=nr (by kernel_rfl)
theorem fo_50_2 : fieldOff Tryz.prog 50 2=some 2:=nr (by kernel_rfl)
theorem fo_50_3 : fieldOff Tryz.prog 50 3=some 3:=nr (by kernel_rfl)
theorem fo_50_4 : fieldOff Tryz.prog 50 4=some 4:=nr (by kernel_rfl)
theorem fo_50_5 : fieldOff Tryz.prog 50 5=some 5:=nr (by kernel_rfl)
theorem fo_50_6 : fieldOff Tryz.prog 50 6=some 6:=nr (by kernel_rfl)
theorem fo_50_7 : fieldOff Tryz.prog 50 7=some 7:=nr (by kernel_rfl)
theorem fo_62_0 : fieldOff Tryz.prog 62 0=some 0:=nr (by kernel_rfl)
theorem fo_62_1 : fieldOff Tryz.prog 62 1=some 1:=nr (by kernel_rfl)
theorem fo_63_0 : fieldOff Tryz.prog 63 0=some 0:=nr (by kernel_rfl)
theorem fo_63_1 : fieldOff Tryz.prog 63 1=some 1:=nr (by kernel_rfl)
theorem fo_68_0 : fieldOff Tryz.prog 68 0=some 0:=nr (by kernel_rfl)
theorem fv_26_0 (cs:Array Value):fieldV Tryz.prog 26 0 cs=cs[0]?:=fieldV_one (by kernel_rfl) cs
theorem it_102 : intT Tryz.prog 102=some .u16:=nr (by kernel_rfl)
theorem it_2 : intT Tryz.prog 2=some .i64:=nr (by kernel_rfl)
theorem it_21 : intT Tryz.prog 21=some .i32:=nr (by kernel_rfl)
theorem it_3 : intT Tryz.prog 3=some .i64:=nr (by kernel_rfl)
theorem it_45 : intT Tryz.prog 45=some .i16:=nr (by kernel_rfl)
theorem it_5 : intT Tryz.prog 5=some .u8:=nr (by kernel_rfl)
theorem it_60 : intT Tryz.prog 60=some .u32:=nr (by kernel_rfl)
theorem it_71 : intT Tryz.prog 71=some .i8:=nr (by kernel_rfl)
theorem it_99 : intT Tryz.prog 99=some .u64:=nr (by kernel_rfl)
theorem kn_102 : knownT Tryz.prog 102=true:=nr (by kernel_rfl)
theorem kn_122 : knownT Tryz.prog 122=true:=nr (by kernel_rfl)
theorem kn_2 : knownT Tryz.prog 2=true:=nr (by kernel_rfl)
theorem kn_21 : knownT Tryz.prog 21=true:=nr (by kernel_rfl)
theorem kn_22 : knownT Tryz.prog 22=true:=nr (by kernel_rfl)
theorem kn_3 : knownT Tryz.prog 3=true:=nr (by kernel_rfl)
theorem kn_45 : knownT Tryz.prog 45=true:=nr (by kernel_rfl)
theorem kn_5 : knownT Tryz.prog 5=true:=nr (by kernel_rfl)
theorem kn_60 : knownT Tryz.prog 60=true:=nr (by kernel_rfl)
theorem kn_71 : knownT Tryz.prog 71=true:=nr (by kernel_rfl)
theorem kn_9 : knownT Tryz.prog 9=true:=nr (by kernel_rfl)
theorem kn_99 : knownT Tryz.prog 99=true:=nr (by kernel_rfl)
theorem ld_122 (w:World) (b o:Nat):loadOf Tryz.prog 122 w ⟨b,o,none⟩=(blk w b).bind fun x=>x.1[o]?:=loadOf_one (by kernel_rfl) w b o
theorem ld_134 (w:World) (b o:Nat):loadOf Tryz.prog 134 w ⟨b,o,none⟩=(blk w b).bind fun x=>cellsAt x.1 o 0:=loadOf_agg (by kernel_rfl) w b o
theorem ld_2 (w:World) (b o:Nat):loadOf Tryz.prog 2 w ⟨b,o,none⟩=(blk w b).bind fun x=>x.1[o]?:=loadOf_one (by kernel_rfl) w b o
theorem ld_22 (w:World) (b o:Nat):loadOf Tryz.prog 22 w ⟨b,o,none⟩=(blk w b).bind fun x=>x.1[o]?:=loadOf_one (by kernel_rfl) w b o
theorem ld_23 (w:World) (b o:Nat):loadOf Tryz.prog 23 w ⟨b,o,none⟩=(blk w b).bind fun x=>x.1[o]?:=loadOf_one (by kernel_rfl) w b o
theorem ld_24 (w:World) (b o:Nat):loadOf Tryz.prog 24 w ⟨b,o,none⟩=(blk w b).bind fun x=>x.1[o]?:=loadOf_one (by kernel_rfl) w b o
theorem ld_26 (w:World) (b o:Nat):loadOf Tryz.prog 26 w ⟨b,o,none⟩=(blk w b).bind fun x=>cellsAt x.1 o 5:=loadOf_agg (by kernel_rfl) w b o
theorem ld_29 (w:World) (b o:Nat):loadOf Tryz.prog 29 w ⟨b,o,none⟩=(blk w b).bind fun x=>x.1[o]?:=loadOf_one (by kernel_rfl) w b o
theorem ld_3 (w:World) (b o:Nat):loadOf Tryz.prog 3 w ⟨b,o,none⟩=(blk w b).bind fun x=>x.1[o]?:=loadOf_one (by kernel_rfl) w b o
theorem ld_34 (w:World) (b o:Nat):loadOf Tryz.prog 34 w ⟨b,o,none⟩=(blk w b).bind fun x=>x.1[o]?:=loadOf_one (by kernel_rfl) w b o
theorem ld_35 (w:World) (b o:Nat):loadOf Tryz.prog 35 w ⟨b,o,none⟩=(blk w b).bind fun x=>x.1[o]?:=loadOf_one (by kernel_rfl) w b o
theorem ld_37 (w:World) (b o:Nat):loadOf Tryz.prog 37 w ⟨b,o,none⟩=(blk w b).bind fun x=>cellsAt x.1 o 5:=loadOf_agg (by kernel_rfl) w b o
theorem ld_4 (w:World) (b o:Nat):loadOf Tryz.prog 4 w ⟨b,o,none⟩=(blk w b).bind fun x=>x.1[o]?:=loadOf_one (by kernel_rfl) w b o
theorem ld_5 (w:World) (b o:Nat):loadOf Tryz.prog 5 w ⟨b,o,none⟩=(blk w b).bind fun x=>x.1[o]?:=loadOf_one (by kernel_rfl) w b o
theorem ld_50 (w:World) (b o:Nat):loadOf Tryz.prog 50 w ⟨b,o,none⟩=(blk w b).bind fun x=>cellsAt x.1 o 8:=loadOf_agg (by kernel_rfl) w b o
theorem ld_54 (w:World) (b o:Nat):loadOf Tryz.prog 54 w ⟨b,o,none⟩=(blk w b).bind fun x=>x.1[o]?:=loadOf_one (by kernel_rfl) w b o
theorem ld_60 (w:World) (b o:Nat):loadOf Tryz.prog 60 w ⟨b,o,none⟩=(blk w b).bind fun x=>x.1[o]?:=loadOf_one (by kernel_rfl) w b o
theorem ld_62 (w:World) (b o:Nat):loadOf Tryz.prog 62 w ⟨b,o,none⟩=(blk w b).bind fun x=>cellsAt x.1 o 2:=loadOf_agg (by kernel_rfl) w b o
theorem ld_63 (w:World) (b o:Nat):loadOf Tryz.prog 63 w ⟨b,o,none⟩=(blk w b).bind fun x=>cellsAt x.1 o 2:=loadOf_agg (by kernel_rfl) w b o
theorem ld_66 (w:World) (b o:Nat):loadOf Tryz.prog 66 w ⟨b,o,none⟩=(blk w b).bind fun x=>x.1[o]?:=loadOf_one (by kernel_rfl) w b o
theorem ld_68 (w:World) (b o:Nat):loadOf Tryz.prog 68 w ⟨b,o,none⟩=(blk w b).bind fun x=>cellsAt x.1 o 1:=loadOf_agg (by kernel_rfl) w b o
theorem ld_82 (w:World) (b o:Nat):loadOf Tryz.prog 82 w ⟨b,o,none⟩=(blk w b).bind fun x=>cellsAt x.1 o 16:=loadOf_agg (by kernel_rfl) w b o
theorem ld_9 (w:World) (b o:Nat):loadOf Tryz.prog 9 w ⟨b,o,none⟩=(blk w b).bind fun x=>x.1[o]?:=loadOf_one (by kernel_rfl) w b o
theorem mp_66 : isMapT Tryz.prog 66=true:=nr (by kernel_rfl)
theorem nif_122 : isIfaceT Tryz.prog 122=false:=nr (by kernel_rfl)
theorem pl_26 : placesOf Tryz.prog 26=some [(0,1),(1,1),(2,1),(3,1),(4,1)]:=nr (by kernel_rfl)
theorem pl_37 : placesOf Tryz.prog 37=some [(0,1),(1,1),(2,1),(3,1),(4,1)]:=nr (by kernel_rfl)
theorem pl_63 : placesOf Tryz.prog 63=some [(0,1),(1,1)]:=nr (by kernel_rfl)
theorem pt_65 : isPtrT Tryz.prog 65=true:=nr (by kernel_rfl)
theorem se_122 : slElem Tryz.prog 122=some (60,1):=nr (by kernel_rfl)
theorem se_22 : slElem Tryz.prog 22=some (5,1):=nr (by kernel_rfl)
theorem se_23 : slElem Tryz.prog 23=some (26,5):=nr (by kernel_rfl)
theorem se_24 : slElem Tryz.prog 24=some (63,2):=nr (by kernel_rfl)
theorem sl_122 : isSliceT Tryz.prog 122=true:=nr (by kernel_rfl)
theorem sl_22 : isSliceT Tryz.prog 22=true:=nr (by kernel_rfl)
theorem sl_23 : isSliceT Tryz.prog 23=true:=nr (by kernel_rfl)
theorem sl_24 : isSliceT Tryz.prog 24=true:=nr (by kernel_rfl)
theorem sl_29 : isSliceT Tryz.prog 29=true:=nr (by kernel_rfl)
theorem sl_34 : isSliceT Tryz.prog 34=true:=nr (by kernel_rfl)
theorem sl_35 : isSliceT Tryz.prog 35=true:=nr (by kernel_rfl)
theorem sz_122 (w:World) (b o:Nat) (v:Value):storeOf Tryz.prog 122 w ⟨b,o,none⟩ v=(blk w b).bind fun x=>stO w b o v x 1:=storeOf_n (by kernel_rfl) w b o v
theorem sz_22 (w:World) (b o:Nat) (v:Value):storeOf Tryz.prog 22 w ⟨b,o,none⟩ v=(blk w b).bind fun x=>stO w b o v x 1:=storeOf_n (by kernel_rfl) w b o v
theorem sz_23 (w:World) (b o:Nat) (v:Value):storeOf Tryz.prog 23 w ⟨b,o,none⟩ v=(blk w b).bind fun x=>stO w b o v x 1:=storeOf_n (by kernel_rfl) w b o v
theorem sz_24 (w:World) (b o:Nat) (v:Value):storeOf Tryz.prog 24 w ⟨b,o,none⟩ v=(blk w b).bind fun x=>stO w b o v x 1:=storeOf_n (by kernel_rfl) w b o v
theorem sz_26 (w:World) (b o:Nat) (v:Value):storeOf Tryz.prog 26 w ⟨b,o,none⟩ v=(blk w b).bind fun x=>stO w b o v x 5:=storeOf_n (by kernel_rfl) w b o v
theorem sz_37 (w:World) (b o:Nat) (v:Value):storeOf Tryz.prog 37 w ⟨b,o,none⟩ v=(blk w b).bind fun x=>stO w b o v x 5:=storeOf_n (by kernel_rfl) w b o v
theorem sz_4 (w:World) (b o:Nat) (v:Value):storeOf Tryz.prog 4 w ⟨b,o,none⟩ v=(blk w b).bind fun x=>stO w b o v x 1:=storeOf_n (by kernel_rfl) w b o v
theorem sz_50 (w:World) (b o:Nat) (v:Value):storeOf Tryz.prog 50 w ⟨b,o,none⟩ v=(blk w b).bind fun x=>stO w b o v x 8:=storeOf_n (by kernel_rfl) w b o v
theorem sz_62 (w:World) (b o:Nat) (v:Value):storeOf Tryz.prog 62 w ⟨b,o,none⟩ v=(blk w b).bind fun x=>stO w b o v x 2:=storeOf_n (by kernel_rfl) w b o v
theorem sz_63 (w:World) (b o:Nat) (v:Value):storeOf Tryz.prog 63 w ⟨b,o,none⟩ v=(blk w b).bind fun x=>stO w b o v x 2:=storeOf_n (by kernel_rfl) w b o v
theorem sz_66 (w:World) (b o:Nat) (v:Value):storeOf Tryz.prog 66 w ⟨b,o,none⟩ v=(blk w b).bind fun x=>stO w b o v x 1:=storeOf_n (by kernel_rfl) w b o v
theorem sz_68 (w:World) (b o:Nat) (v:Value):storeOf Tryz.prog 68 w ⟨b,o,none⟩ v=(blk w b).bind fun x=>stO w b o v x 1:=storeOf_n (by kernel_rfl) w b o v
theorem sz_82 (w:World) (b o:Nat) (v:Value):storeOf Tryz.prog 82 w ⟨b,o,none⟩ v=(blk w b).bind fun x=>stO w b o v x 16:=storeOf_n (by kernel_rfl) w b o v
theorem sz_9 (w:World) (b o:Nat) (v:Value):storeOf Tryz.prog 9 w ⟨b,o,none⟩ v=(blk w b).bind fun x=>stO w b o v x 1:=storeOf_n (by kernel_rfl) w b o v
theorem z_122 : zeroOf Tryz.prog 122=some #[.slice none 0 0]:=nr (by kernel_rfl)
theorem z_26 : zeroOf Tryz.prog 26=some #[.int .i64 0,.slice none 0 0,.bool false,.slice none 0 0,.slice none 0 0]:=nr (by kernel_rfl)
theorem z_37 : zeroOf Tryz.prog 37=some #[.int .i64 0,.slice none 0 0,.bool false,.slice none 0 0,.slice none 0 0]:=nr (by kernel_rfl)
theorem z_50 : zeroOf Tryz.prog 50=some #[.int .i64 0,.int .i64 0,.int .i64 0,.int .i64 0,.int .i64 0,.int .i64 0,.int .i64 0,.slice none 0 0]:=nr (by kernel_rfl)
theorem z_62 : zeroOf Tryz.prog 62=some #[.int .u32 0,.slice none 0 0]:=nr (by kernel_rfl)
theorem z_63 : zeroOf Tryz.prog 63=some #[.int .u32 0,.slice none 0 0]:=nr (by kernel_rfl)
theorem z_68 : zeroOf Tryz.prog 68=some #[.map none]:=nr (by kernel_rfl)
theorem z_82 : zeroOf Tryz.prog 82=some #[.int .u8 0,.int .u8 0,.int .u8 0,.int .u8 0,.int .u8 0,.int .u8 0,.int .u8 0,.int .u8 0,.int .u8 0,.int .u8 0,.int .u8 0,.int .u8 0,.int .u8 0,.int .u8 0,.int .u8 0,.int .u8 0]:=nr (by kernel_rfl)
theorem z_9 : zeroOf Tryz.prog 9=some #[.string ByteArray.empty]:=nr (by kernel_rfl)
attribute [go_sem] ar_82 ca_11 ca_12 ca_22 ca_23 ca_24 ca_25 ca_35 ca_36 ca_37 ca_38 ca_39 ca_40 ca_41 ca_42 ca_56 ca_57 ca_58 ca_70 ca_71 ca_72 ca_73 ca_74 ca_75 ca_76 ca_77 ca_78 ca_79 ca_80 ca_81 ca_82 ca_83 ca_90 ca_91 es_122 es_22 es_23 es_24 es_29 es_34 es_35 fo_104_0 fo_104_1 fo_26_0 fo_26_1 fo_26_2 fo_26_3 fo_26_4 fo_31_0 fo_31_1 fo_37_0 fo_37_1 fo_37_2 fo_37_3 fo_37_4 fo_50_0 fo_50_1 fo_50_2 fo_50_3 fo_50_4 fo_50_5 fo_50_6 fo_50_7 fo_62_0 fo_62_1 fo_63_0 fo_63_1 fo_68_0 fv_26_0 it_102 it_2 it_21 it_3 it_45 it_5 it_60 it_71 it_99 kn_102 kn_122 kn_2 kn_21 kn_22 kn_3 kn_45 kn_5 kn_60 kn_71 kn_9 kn_99 ld_122 ld_134 ld_2 ld_22 ld_23 ld_24 ld_26 ld_29 ld_3 ld_34 ld_35 ld_37 ld_4 ld_5 ld_50 ld_54 ld_60 ld_62 ld_63 ld_66 ld_68 ld_82 ld_9 mp_66 nif_122 pl_26 pl_37 pl_63 pt_65 se_122 se_22 se_23 se_24 sl_122 sl_22 sl_23 sl_24 sl_29 sl_34 sl_35 sz_122 sz_22 sz_23 sz_24 sz_26 sz_37 sz_4 sz_50 sz_62 sz_63 sz_66 sz_68 sz_82 sz_9 z_122 z_26 z_37 z_50 z_62 z_63 z_68 z_82 z_9
theorem mixed : Tryz.prog.follows .mixedOrders=true:=by kernel_rfl
end Ms

namespace Ms
open Go.World renaming size_alloc → qI
open Ms renaming size_wr → qJ,size_drew → qK,not_noB → qL
open W renaming seqF → qA,seq → qB,regF → qC,condK → qD,block → qE,skip → qF,ret → qG,exit → qH
set_option maxRecDepth 4000
open Go Go.Proofs
attribute [local congr] W_congr WPsq_congr WPp_congr optK_congr addrK_congr intK_congr boolK_congr sliceK_congr tupleK_congr funcK_congr Fn_congr rawK_congr takeK_congr stepK_congr convK_congr aggK_congr

theorem Fixed_fn (n:Int) (k:Nat) (hk:k≤8) (w:World):Fn Tryz.prog 76 #[.int .i64 n,.int .i64 k] w fun v w'=>OwnBy 5 w.heap.size w' v (fixedS n k)∧Ext w w':=by
 refine fn_of_W Tryz.func76 rfl Tryz.results76 Tryz.ntmps76 rfl ?_
 repeat ((first|refine qA ?_|apply qB|refine qC ?_|apply qD|apply qE|apply qF|apply qG|apply qH);try simp (disch:=omega) only [go_sem])
 refine W.loop (fun ρ w'=>∃ (j:Nat) (s:List UInt8) (v:Value),j≤k∧ρ 6 = .int .i64 (j - 1:Int)∧ρ 5=v∧ρ 0 = .int .i64 n∧OwnBy 5 w.heap.size w' v s∧Ext w w'∧s++fixedS n j=fixedS n k∧s.length+j=k)
  (fun ρ _=>(RowKit.intOf (ρ 6)+1).toNat) ?_ ?_
 ·refine ⟨k,[],_,Nat.le_refl _,?_,rfl,?_,Own.nil _ _ _ _,Upd.refl _ _,rfl,by simp⟩
  ·simp (disch:=omega) only [go_sem]
  ·simp (disch:=omega) only [go_sem]
 ·rintro ρ w1 ⟨j,s,v,hj,h6,h5,h0,hown,hext,hs,hl⟩
  have hz:=hext.size
  cases j with
  | zero =>
   repeat ((first|refine qA ?_|apply qB|refine qC ?_|apply qD|apply qE|apply qF|apply qG|apply qH);try simp (disch:=omega) only [go_sem,h6])
   rw [h5]
   simp only [fixedS,List.append_nil] at hs
   exact ⟨hs ▸ hown,hext⟩
  | succ j =>
   have e1:(8 * (((j+1:Nat):Int) - 1)).toNat=8 * j:=by omega
   have e2:min (8 * j) 64=8 * j:=by omega
   repeat ((first|refine qA ?_|apply qB|refine qC ?_|apply qD|apply qE|apply qF|apply qG|apply qH);try simp (disch:=omega) only [go_sem,h6,h5,h0,e1,e2,u8_byte,kbits])
   refine wp_append ap_22_22 (m:=1) (news:=[byteV (b8 (n.fdiv (2 ^ (8 * j))))]) (n:=s.length) (cs:=s.map byteV) (v:=v) ?_ rfl (hown.alloc _) (flat_bytes _) (Src.blk (fr:=(0,0)) (T:=5) (blk_alloc_new rfl) rfl rfl) ?_ ?_ ?_
   ·simp (disch:=omega) only [go_sem]
   ·simp only [World.size_alloc];omega
   ·omega
   intro v' w2 ho hu hfr
   have hz2:=hu.size
   simp (disch:=omega) only [go_sem]
   repeat ((first|refine qA ?_|apply qB|refine qC ?_|apply qD|apply qE|apply qF|apply qG|apply qH);try simp (disch:=omega) only [go_sem,h6,h5,h0])
   refine ⟨⟨j,s++[b8 (n.fdiv (2 ^ (8 * j)))],_,by omega,?_,rfl,OwnBy.snoc ho,Ext.own (hext.alloc _) hown hu,?_,?_⟩,?_⟩
   ·congr 1;omega
   ·rw [List.append_assoc];exact hs
   ·simp only [List.length_append,List.length_cons,List.length_nil];omega
   ·simp only [RowKit.intOf];omega
end Ms

namespace Ms
set_option maxRecDepth 4000
open Go Go.Proofs
attribute [local congr] W_congr WPsq_congr WPp_congr optK_congr addrK_congr intK_congr boolK_congr sliceK_congr tupleK_congr funcK_congr Fn_congr rawK_congr takeK_congr stepK_congr convK_congr aggK_congr


end Ms

namespace Ms
open Go

abbrev Rel (α:Type):=Blocks→World→α→List Value→Prop
structure Lay {α:Type} (R:Rel α) (size:Nat):Prop where
 keep:∀ {ok w w' x cs},R ok w x cs→Keeps ok w w'→R ok w' x cs
 weaken:∀ {ok ok' w x cs},R ok w x cs→(∀ b,b < w.heap.size→ok b→ok' b)→R ok' w x cs
 flat:∀ {ok w x cs},R ok w x cs→cs.all flat=true∧cs.length=size

structure GrowR {α:Type} (R:Rel α) (size:Nat) (ok:Blocks) (B tb:Nat) (w:World) (T:TypeId) (v:Value) (xs:List α):Prop where
 ex:∃ css,OwnE B w T size v css∧All2 (R (fun b=>ok b∧b≠tb∧¬ ownB v b) w) xs css
section
variable {α : Type} {R:Rel α} {size:Nat} (hR:Lay R size) {ok:Blocks} {B tb:Nat} {w w':World} {T:TypeId} {v v':Value} {xs:List α}
include hR
omit hR in
theorem GrowR.nil : GrowR R size ok B tb w T (.slice none 0 0) []:=⟨[],OwnE.nil _ _ _ _,rfl,fun i h=>by simp at h⟩
omit hR in
theorem GrowR.shape (h:GrowR R size ok B tb w T v xs):∃ a c,v = .slice a xs.length c∧xs.length≤c:=by
 obtain ⟨css,h1,h2⟩:=h.ex
 obtain ⟨a,c,h3,h4⟩:=h1.shape
 rw [← h2.1] at h3 h4
 exact ⟨a,c,h3,h4⟩
omit hR in
theorem GrowR.above (h:GrowR R size ok B tb w T v xs) {b:Nat} (hb:ownB v b):B≤b:=by
 obtain ⟨css,h1,h2⟩:=h.ex;exact Own.above h1.1 hb
omit hR in
theorem GrowR.below (h:GrowR R size ok B tb w T v xs) {b:Nat} (hb:ownB v b):b < w.heap.size:=by
 obtain ⟨css,h1,h2⟩:=h.ex;exact Own.below h1.1 hb
theorem GrowR.upd (h:GrowR R size ok B tb w T v xs) (u:Upd (fun b=>b=tb) w w') (ht:¬ ownB v tb):GrowR R size ok B tb w' T v xs:=by
 obtain ⟨css,h1,h2⟩:=h.ex
 exact ⟨css,h1.upd u (fun b hb e=>ht (e ▸ hb)),h2.imp fun _ _ h=>hR.keep h (u.keeps fun b _ hk e=>hk.2.1 e)⟩
theorem GrowR.ext (h:GrowR R size ok B tb w T v xs) (u:Ext w w'):GrowR R size ok B tb w' T v xs:=by
 obtain ⟨css,h1,h2⟩:=h.ex
 exact ⟨css,h1.upd u (fun _ _ h=>h),h2.imp fun _ _ h=>hR.keep h (u.keeps _)⟩
theorem GrowR.snoc {x:α} {cs:List Value} {css:List (List Value)} (h1:OwnE B w T size v css)
  (h2:All2 (R (fun b=>ok b∧b≠tb∧¬ ownB v b) w) xs css) (hx:R (fun b=>ok b∧b≠tb∧¬ ownB v b) w x cs) (hu:Upd (ownB v) w w') (hf:∀ b,ownB v' b→ownB v b∨w.heap.size≤b)
  (ho:Own B w' T size v' (css.length+1) (css.flatten++cs)):GrowR R size ok B tb w' T v' (xs++[x]):=by
 have key:∀ t c,R (fun b=>ok b∧b≠tb∧¬ ownB v b) w t c→R (fun b=>ok b∧b≠tb∧¬ ownB v' b) w' t c:=fun t c hc=>by
  have hk:R (fun b=>(ok b∧b≠tb∧¬ ownB v' b)∧¬ ownB v b) w t c:=hR.weaken hc fun b hb hk=>⟨⟨hk.1,hk.2.1,fun h=>(hf b h).elim hk.2.2 (fun h=>by omega)⟩,hk.2.2⟩
  exact hR.weaken (hR.keep hk (hu.keeps fun b _ hk=>hk.2)) fun b _ hk=>hk.1
 refine ⟨css++[cs],OwnE.snoc h1.2 (hR.flat hx).2 ho rfl,by simp [h2.1],fun i h3 h4 => ?_⟩
 simp only [List.length_append,List.length_cons,List.length_nil] at h3 h4
 have h5:=h2.1
 by_cases hi:i < xs.length
 ·rw [List.getElem_append_left hi,List.getElem_append_left (by omega)]
  exact key _ _ (h2.2 i hi (by omega))
 ·have:i=xs.length:=by omega
  subst this
  rw [List.getElem_append_right (Nat.le_refl _),List.getElem_append_right (by omega)]
  simp only [Nat.sub_self,List.getElem_cons_zero,h5]
  exact key _ _ hx
theorem GrowR.sl (h:GrowR R size ok B tb w T v xs) {ok':Blocks} (h1:∀ b,b < w.heap.size→ok b→ok' b) (h2:∀ b,B≤b→ok' b):SlR ok' w size (R ok' w) v xs:=by
 obtain ⟨css,h3,h4⟩:=h.ex
 exact ⟨css,h3.sl fun b hb=>h2 b (Own.above h3.1 hb),h4.imp fun _ _ h=>hR.weaken h fun b hb hk=>h1 b hb hk.1⟩
theorem SlR.keepR {k:Nat} (h:SlR ok w k (R ok w) v xs) (q:Keeps ok w w'):SlR ok w' k (R ok w') v xs:=by
 obtain ⟨css,h1,h2⟩:=h;exact ⟨css,h1.keep q,h2.imp fun _ _ h=>hR.keep h q⟩
theorem SlR.weakenR {ok':Blocks} {k:Nat} (h:SlR ok w k (R ok w) v xs) (q:∀ b,b < w.heap.size→ok b→ok' b):SlR ok' w k (R ok' w) v xs:=by
 obtain ⟨css,h1,h2⟩:=h;exact ⟨css,h1.weaken q,h2.imp fun _ _ h=>hR.weaken h q⟩
end

/-! ### The tags of a message: a map from numbers to octets -/
structure TagE (ok:Blocks) (w:World) (t:TagD) (e:MapEntry):Prop where
 key:e.key = .int .u32 t.1
 num:t.1 < 2 ^ 32
 val:BytesV ok w e.val t.2
def TagsM (ok:Blocks) (w:World) (v:Value) (u:List TagD):Prop :=
 (v = .map none∧u=[])∨∃ r es clock,v = .map (some r)∧ok r∧w.heap[r]? = some (.map es clock)∧es.size=u.length∧(∀ i (h1:i < u.length) (h2:i < es.size),TagE ok w u[i] es[i]∧es[i].born < clock) ∧
  (∀ i j (h1:i < es.size) (h2:j < es.size),es[i].born=es[j].born→i=j)
theorem TagE.keep {ok:Blocks} {w w':World} {t:TagD} {e:MapEntry} (h:TagE ok w t e) (k:Keeps ok w w'):TagE ok w' t e:=⟨h.key,h.num,h.val.keep k⟩
theorem TagE.weaken {ok ok':Blocks} {w:World} {t:TagD} {e:MapEntry} (h:TagE ok w t e) (k:∀ b,b < w.heap.size→ok b→ok' b):TagE ok' w t e:=⟨h.key,h.num,h.val.weaken k⟩
theorem heap_lt {w:World} {b:Nat} {o:Obj} (h:w.heap[b]? = some o):b < w.heap.size:=by
 rcases Nat.lt_or_ge b w.heap.size with h1|h1
 ·exact h1
 ·rw [Array.getElem?_eq_none h1] at h;cases h
theorem TagsM.keep {ok:Blocks} {w w':World} {v:Value} {u:List TagD} (h:TagsM ok w v u) (k:Keeps ok w w'):TagsM ok w' v u:=by
 rcases h with h|⟨r,es,clock,h1,h2,h3,h4,h5,h6⟩
 ·exact .inl h
 ·exact .inr ⟨r,es,clock,h1,h2,by rw [k r (heap_lt h3) h2];exact h3,h4,fun i g1 g2=>⟨(h5 i g1 g2).1.keep k,(h5 i g1 g2).2⟩,h6⟩
theorem TagsM.weaken {ok ok':Blocks} {w:World} {v:Value} {u:List TagD} (h:TagsM ok w v u) (k:∀ b,b < w.heap.size→ok b→ok' b):TagsM ok' w v u:=by
 rcases h with h|⟨r,es,clock,h1,h2,h3,h4,h5,h6⟩
 ·exact .inl h
 ·exact .inr ⟨r,es,clock,h1,k r (heap_lt h3) h2,h3,h4,fun i g1 g2=>⟨(h5 i g1 g2).1.weaken k,(h5 i g1 g2).2⟩,h6⟩
theorem TagsM.flat {ok:Blocks} {w:World} {v:Value} {u:List TagD} (h:TagsM ok w v u):flat v=true:=by
 rcases h with ⟨rfl,_⟩|⟨r,es,clock,rfl,_⟩<;>rfl

/-! ### A message in memory,by its fields -/
def numC (kind:Int) (n:Int):Value :=
 if kind=0 then .bool (decide (n % 2=1)) else if kind=1 then .int .i8 (IntKind.i8.wrap n) else if kind=2 then .int .i16 (IntKind.i16.wrap n) else if kind=3 then .int .i32 (IntKind.i32.wrap n)
 else if kind=5 then .int .u16 (IntKind.u16.wrap n) else if kind=6 then .float .f64 (n % 18446744073709551616).toNat else .int .i64 n
def uuidS (s:List UInt8):List UInt8:=s.take 16++List.replicate (16 - s.length) 0
def PtrText (ok:Blocks) (w:World) (v:Value) (null:Bool) (s:List UInt8):Prop :=
 if null=true then v = .pointer none else ∃ b o x,v = .pointer (some ⟨b,o,none⟩)∧ok b∧blk w b=some x∧x.1[o]? = some (strV s)
def OptBytes (ok:Blocks) (w:World) (v:Value) (null:Bool) (s:List UInt8):Prop :=
 if null=true then v = .slice none 0 0 else BytesV ok w v s∧∃ a n c,v = .slice (some a) n c
def Rep1 (R:List Fld→Rel Tree) (kind:Int) (sub:List Fld):Rel Tree:=fun ok w t cs =>
 if kind=7 then cs=(uuidS t.s).map byteV
 else if kind=8 then cs=[strV t.s]
 else if kind=9 then ∃ v,cs=[v]∧OptBytes ok w v t.null t.s
 else if kind=10 then R sub ok w t cs
 else cs=[numC kind t.n]
def sz1 (S:List Fld→Nat) (kind:Int) (sub:List Fld):Nat:=if kind=7 then 16 else if kind=10 then S sub else 1
def PtrPart (R:Rel Tree) (ok:Blocks) (w:World) (t:Tree) (v:Value):Prop :=
 if t.null=true then v = .pointer none else ∃ b T cs,v = .pointer (some ⟨b,0,none⟩)∧ok b∧blk w b=some (cs.toArray,T,(0,0))∧R ok w t cs
def RepF (R:List Fld→Rel Tree) (S:List Fld→Nat) (f:Fld):Rel Tree:=fun ok w t cs =>
 if f.kind=8∧0≤f.null then ∃ v,cs=[v]∧PtrText ok w v t.null t.s
 else if f.kind=11 then ∃ v,cs=[v]∧(if t.null=true then v = .slice none 0 0 else SlR ok w (sz1 S f.of f.sub) (Rep1 R f.of f.sub ok w) v t.l∧∃ a n c,v = .slice (some a) n c)
 else if f.kind=10∧0≤f.null then ∃ v,cs=[v]∧PtrPart (R f.sub) ok w t v
 else Rep1 R f.kind f.sub ok w t cs
def szF (S:List Fld→Nat) (f:Fld):Nat:=if f.kind=11 then 1 else if f.kind=10∧0≤f.null then 1 else sz1 S f.kind f.sub
def RepL (R:List Fld→Rel Tree) (S:List Fld→Nat) (ok:Blocks) (w:World) (t:Tree):List Fld→Nat→List Value→Prop
 | [],_,cs=>cs=[]
 | f :: fs,i,cs=>∃ c rest,cs=c++rest∧RepF R S f ok w (t.at i) c∧RepL R S ok w t fs (i+1) rest
def szS (tg:Bool):Nat→List Fld→Nat
 | 0,_=>0
 | d+1,fs=>(fs.map (szF (szS tg d))).sum+(if tg=true then 1 else 0)
def RepS (tg:Bool):Nat→List Fld→Rel Tree
 | 0,_=>fun _ _ _ _=>False
 | d+1,fs=>fun ok w t cs=>∃ c m,cs=c++m∧RepL (RepS tg d) (szS tg d) ok w t fs 0 c∧(if tg=true then ∃ v,m=[v]∧TagsM ok w v t.u else m=[])

theorem PtrText.keep {ok:Blocks} {w w':World} {v:Value} {null:Bool} {s:List UInt8} (h:PtrText ok w v null s) (k:Keeps ok w w'):PtrText ok w' v null s:=by
 unfold PtrText at *
 by_cases hn:null=true
 ·rw [if_pos hn] at h ⊢;exact h
 ·rw [if_neg hn] at h ⊢
  obtain ⟨b,o,x,h1,h2,h3,h4⟩:=h
  exact ⟨b,o,x,h1,h2,by rw [blk_of_heap (k b (blk_lt h3) h2)];exact h3,h4⟩
theorem PtrText.weaken {ok ok':Blocks} {w:World} {v:Value} {null:Bool} {s:List UInt8} (h:PtrText ok w v null s) (k:∀ b,b < w.heap.size→ok b→ok' b):PtrText ok' w v null s:=by
 unfold PtrText at *
 by_cases hn:null=true
 ·rw [if_pos hn] at h ⊢;exact h
 ·rw [if_neg hn] at h ⊢
  obtain ⟨b,o,x,h1,h2,h3,h4⟩:=h
  exact ⟨b,o,x,h1,k b (blk_lt h3) h2,h3,h4⟩
theorem PtrText.flat {ok:Blocks} {w:World} {v:Value} {null:Bool} {s:List UInt8} (h:PtrText ok w v null s):flat v=true:=by
 unfold PtrText at h
 split at h
 ·subst h;rfl
 ·obtain ⟨b,o,x,rfl,_⟩:=h;rfl
theorem OptBytes.keep {ok:Blocks} {w w':World} {v:Value} {null:Bool} {s:List UInt8} (h:OptBytes ok w v null s) (k:Keeps ok w w'):OptBytes ok w' v null s:=by
 unfold OptBytes at *
 by_cases hn:null=true
 ·rw [if_pos hn] at h ⊢;exact h
 ·rw [if_neg hn] at h ⊢;exact ⟨h.1.keep k,h.2⟩
theorem OptBytes.weaken {ok ok':Blocks} {w:World} {v:Value} {null:Bool} {s:List UInt8} (h:OptBytes ok w v null s) (k:∀ b,b < w.heap.size→ok b→ok' b):OptBytes ok' w v null s:=by
 unfold OptBytes at *
 by_cases hn:null=true
 ·rw [if_pos hn] at h ⊢;exact h
 ·rw [if_neg hn] at h ⊢;exact ⟨h.1.weaken k,h.2⟩
theorem OptBytes.flat {ok:Blocks} {w:World} {v:Value} {null:Bool} {s:List UInt8} (h:OptBytes ok w v null s):flat v=true:=by
 unfold OptBytes at h
 split at h
 ·subst h;rfl
 ·exact h.1.flat
theorem numC_flat (k n:Int):flat (numC k n)=true:=by
 unfold numC
 repeat' split
 all_goals rfl
theorem uuidS_len (s:List UInt8):(uuidS s).length=16:=by simp only [uuidS,List.length_append,List.length_take,List.length_replicate];omega

theorem PtrPart.keep {R:Rel Tree} {n:Nat} (hR:Lay R n) {ok:Blocks} {w w':World} {t:Tree} {v:Value} (h:PtrPart R ok w t v) (k:Keeps ok w w'):PtrPart R ok w' t v:=by
 unfold PtrPart at *
 by_cases hn:t.null=true
 ·rw [if_pos hn] at h ⊢;exact h
 ·rw [if_neg hn] at h ⊢
  obtain ⟨b,T,cs,h1,h2,h3,h4⟩:=h
  exact ⟨b,T,cs,h1,h2,by rw [blk_of_heap (k b (blk_lt h3) h2)];exact h3,hR.keep h4 k⟩
theorem PtrPart.weaken {R:Rel Tree} {n:Nat} (hR:Lay R n) {ok ok':Blocks} {w:World} {t:Tree} {v:Value} (h:PtrPart R ok w t v) (k:∀ b,b < w.heap.size→ok b→ok' b):PtrPart R ok' w t v:=by
 unfold PtrPart at *
 by_cases hn:t.null=true
 ·rw [if_pos hn] at h ⊢;exact h
 ·rw [if_neg hn] at h ⊢
  obtain ⟨b,T,cs,h1,h2,h3,h4⟩:=h
  exact ⟨b,T,cs,h1,k b (blk_lt h3) h2,h3,hR.weaken h4 k⟩
theorem PtrPart.flat {R:Rel Tree} {ok:Blocks} {w:World} {t:Tree} {v:Value} (h:PtrPart R ok w t v):flat v=true:=by
 unfold PtrPart at h
 split at h
 ·subst h;rfl
 ·obtain ⟨b,T,cs,rfl,_⟩:=h;rfl

section
variable {R : List Fld→Rel Tree} {S:List Fld→Nat}
theorem Rep1_lay (kind:Int) (sub:List Fld) (hR:kind=10→Lay (R sub) (S sub)):Lay (Rep1 R kind sub) (sz1 S kind sub) where
 keep:=fun {ok w w' x cs} h k=>by
  unfold Rep1 at *
  by_cases h7:kind=7
  ·rw [if_pos h7] at h ⊢;exact h
  ·rw [if_neg h7] at h ⊢
   by_cases h8:kind=8
   ·rw [if_pos h8] at h ⊢;exact h
   ·rw [if_neg h8] at h ⊢
    by_cases h9:kind=9
    ·rw [if_pos h9] at h ⊢
     obtain ⟨v,h1,h2⟩:=h;exact ⟨v,h1,h2.keep k⟩
    ·rw [if_neg h9] at h ⊢
     by_cases h10:kind=10
     ·rw [if_pos h10] at h ⊢;exact (hR h10).keep h k
     ·rw [if_neg h10] at h ⊢;exact h
 weaken:=fun {ok ok' w x cs} h k=>by
  unfold Rep1 at *
  by_cases h7:kind=7
  ·rw [if_pos h7] at h ⊢;exact h
  ·rw [if_neg h7] at h ⊢
   by_cases h8:kind=8
   ·rw [if_pos h8] at h ⊢;exact h
   ·rw [if_neg h8] at h ⊢
    by_cases h9:kind=9
    ·rw [if_pos h9] at h ⊢
     obtain ⟨v,h1,h2⟩:=h;exact ⟨v,h1,h2.weaken k⟩
    ·rw [if_neg h9] at h ⊢
     by_cases h10:kind=10
     ·rw [if_pos h10] at h ⊢;exact (hR h10).weaken h k
     ·rw [if_neg h10] at h ⊢;exact h
 flat:=fun {ok w x cs} h=>by
  unfold Rep1 at h
  unfold sz1
  by_cases h7:kind=7
  ·rw [if_pos h7] at h ⊢
   subst h
   exact ⟨flat_bytes _,by rw [List.length_map,uuidS_len]⟩
  ·rw [if_neg h7] at h ⊢
   by_cases h8:kind=8
   ·rw [if_pos h8] at h
    rw [if_neg (by omega)]
    subst h
    exact ⟨rfl,rfl⟩
   ·rw [if_neg h8] at h
    by_cases h9:kind=9
    ·rw [if_pos h9] at h
     rw [if_neg (by omega)]
     obtain ⟨v,rfl,h2⟩:=h
     exact ⟨by simp only [List.all_cons,h2.flat,List.all_nil,Bool.and_self],rfl⟩
    ·rw [if_neg h9] at h
     by_cases h10:kind=10
     ·rw [if_pos h10] at h ⊢
      exact (hR h10).flat h
     ·rw [if_neg h10] at h ⊢
      subst h
      exact ⟨by simp only [List.all_cons,numC_flat,List.all_nil,Bool.and_self],rfl⟩
theorem RepF_lay (f:Fld) (hR:f.kind=10∨f.of=10→Lay (R f.sub) (S f.sub)):Lay (RepF R S f) (szF S f) where
 keep:=fun {ok w w' x cs} h k=>by
  unfold RepF at *
  by_cases h8:f.kind=8∧0≤f.null
  ·rw [if_pos h8] at h ⊢
   obtain ⟨v,h1,h2⟩:=h;exact ⟨v,h1,h2.keep k⟩
  ·rw [if_neg h8] at h ⊢
   by_cases h11:f.kind=11
   ·rw [if_pos h11] at h ⊢
    obtain ⟨v,h1,h2⟩:=h
    refine ⟨v,h1,?_⟩
    by_cases hn:x.null=true
    ·rw [if_pos hn] at h2 ⊢;exact h2
    ·rw [if_neg hn] at h2 ⊢
     exact ⟨SlR.keepR (Rep1_lay f.of f.sub fun h=>hR (.inr h)) h2.1 k,h2.2⟩
   ·rw [if_neg h11] at h ⊢
    by_cases h10:f.kind=10∧0≤f.null
    ·rw [if_pos h10] at h ⊢
     obtain ⟨v,h1,h2⟩:=h;exact ⟨v,h1,h2.keep (hR (.inl h10.1)) k⟩
    ·rw [if_neg h10] at h ⊢
     exact (Rep1_lay f.kind f.sub fun h=>hR (.inl h)).keep h k
 weaken:=fun {ok ok' w x cs} h k=>by
  unfold RepF at *
  by_cases h8:f.kind=8∧0≤f.null
  ·rw [if_pos h8] at h ⊢
   obtain ⟨v,h1,h2⟩:=h;exact ⟨v,h1,h2.weaken k⟩
  ·rw [if_neg h8] at h ⊢
   by_cases h11:f.kind=11
   ·rw [if_pos h11] at h ⊢
    obtain ⟨v,h1,h2⟩:=h
    refine ⟨v,h1,?_⟩
    by_cases hn:x.null=true
    ·rw [if_pos hn] at h2 ⊢;exact h2
    ·rw [if_neg hn] at h2 ⊢
     exact ⟨SlR.weakenR (Rep1_lay f.of f.sub fun h=>hR (.inr h)) h2.1 k,h2.2⟩
   ·rw [if_neg h11] at h ⊢
    by_cases h10:f.kind=10∧0≤f.null
    ·rw [if_pos h10] at h ⊢
     obtain ⟨v,h1,h2⟩:=h;exact ⟨v,h1,h2.weaken (hR (.inl h10.1)) k⟩
    ·rw [if_neg h10] at h ⊢
     exact (Rep1_lay f.kind f.sub fun h=>hR (.inl h)).weaken h k
 flat:=fun {ok w x cs} h=>by
  unfold RepF at h
  unfold szF
  by_cases h8:f.kind=8∧0≤f.null
  ·rw [if_pos h8] at h
   rw [if_neg (by omega),if_neg (by omega)]
   obtain ⟨v,rfl,h2⟩:=h
   refine ⟨by simp only [List.all_cons,h2.flat,List.all_nil,Bool.and_self],?_⟩
   unfold sz1
   rw [if_neg (by omega),if_neg (by omega)];rfl
  ·rw [if_neg h8] at h
   by_cases h11:f.kind=11
   ·rw [if_pos h11] at h ⊢
    obtain ⟨v,rfl,h2⟩:=h
    refine ⟨?_,rfl⟩
    have:Ms.flat v=true:=by
     split at h2
     ·subst h2;rfl
     ·exact SlR.flat h2.1
    simp only [List.all_cons,this,List.all_nil,Bool.and_self]
   ·rw [if_neg h11] at h ⊢
    by_cases h10:f.kind=10∧0≤f.null
    ·rw [if_pos h10] at h ⊢
     obtain ⟨v,rfl,h2⟩:=h
     exact ⟨by simp only [List.all_cons,h2.flat,List.all_nil,Bool.and_self],rfl⟩
    ·rw [if_neg h10] at h ⊢
     exact (Rep1_lay f.kind f.sub fun h=>hR (.inl h)).flat h
theorem RepL_keep {ok:Blocks} {w w':World} {t:Tree} (hR:∀ sub,Lay (R sub) (S sub)) (k:Keeps ok w w'):∀ {fs:List Fld} {i:Nat} {cs:List Value},RepL R S ok w t fs i cs→RepL R S ok w' t fs i cs
 | [],_,_,h=>h
 | f :: fs,i,cs,⟨c,rest,h1,h2,h3⟩=>⟨c,rest,h1,(RepF_lay f fun _=>hR _).keep h2 k,RepL_keep hR k h3⟩
theorem RepL_weaken {ok ok':Blocks} {w:World} {t:Tree} (hR:∀ sub,Lay (R sub) (S sub)) (k:∀ b,b < w.heap.size→ok b→ok' b):∀ {fs:List Fld} {i:Nat} {cs:List Value},RepL R S ok w t fs i cs→RepL R S ok' w t fs i cs
 | [],_,_,h=>h
 | f :: fs,i,cs,⟨c,rest,h1,h2,h3⟩=>⟨c,rest,h1,(RepF_lay f fun _=>hR _).weaken h2 k,RepL_weaken hR k h3⟩
theorem RepL_flat {ok:Blocks} {w:World} {t:Tree} (hR:∀ sub,Lay (R sub) (S sub)):∀ {fs:List Fld} {i:Nat} {cs:List Value},RepL R S ok w t fs i cs→cs.all flat=true∧cs.length=(fs.map (szF S)).sum
 | [],_,_,h=>by subst h;exact ⟨rfl,rfl⟩
 | f :: fs,i,cs,⟨c,rest,h1,h2,h3⟩=>by
  subst h1
  have a:=(RepF_lay f fun _=>hR _).flat h2
  have b:=RepL_flat hR h3
  exact ⟨by rw [List.all_append,a.1,b.1];rfl,by rw [List.length_append,a.2,b.2];rfl⟩
end
theorem RepS_lay (tg:Bool):∀ (d:Nat) (fs:List Fld),Lay (RepS tg d fs) (szS tg d fs)
 | 0,_=>⟨fun h=>h.elim,fun h=>h.elim,fun h=>h.elim⟩
 | d+1,fs=>by
  have ih:=RepS_lay tg d
  refine ⟨?_,?_,?_⟩
  ·rintro ok w w' x cs ⟨c,m,h1,h2,h3⟩ k
   refine ⟨c,m,h1,RepL_keep ih k h2,?_⟩
   by_cases ht:tg=true
   ·rw [if_pos ht] at h3 ⊢
    obtain ⟨v,g1,g2⟩:=h3;exact ⟨v,g1,g2.keep k⟩
   ·rw [if_neg ht] at h3 ⊢;exact h3
  ·rintro ok ok' w x cs ⟨c,m,h1,h2,h3⟩ k
   refine ⟨c,m,h1,RepL_weaken ih k h2,?_⟩
   by_cases ht:tg=true
   ·rw [if_pos ht] at h3 ⊢
    obtain ⟨v,g1,g2⟩:=h3;exact ⟨v,g1,g2.weaken k⟩
   ·rw [if_neg ht] at h3 ⊢;exact h3
  ·rintro ok w x cs ⟨c,m,rfl,h2,h3⟩
   have a:=RepL_flat ih h2
   rw [szS]
   split at h3
   ·obtain ⟨v,rfl,g2⟩:=h3
    rename_i ht
    rw [if_pos ht]
    exact ⟨by rw [List.all_append,a.1];simp only [List.all_cons,g2.flat,List.all_nil,Bool.and_self],by rw [List.length_append,a.2];rfl⟩
   ·rename_i ht
    subst h3
    rw [if_neg ht,List.append_nil]
    exact ⟨a.1,a.2⟩

def Rising (u:List TagD):Prop:=u.Pairwise fun a b=>a.1 < b.1
def FitU (fs:List Fld) (u:List TagD):Prop:=u.length≤32767∧(∀ x∈u,x.2.length≤32767∧knownS fs≤x.1)∧Rising u
def Fit1 (P:List Fld→Tree→Prop) (kind:Int) (sub:List Fld) (t:Tree):Prop:=(kind=8∨kind=9→t.s.length≤32767)∧(kind=10→P sub t)
def FitF (P:List Fld→Tree→Prop) (v:Int) (f:Fld) (t:Tree):Prop :=
 t.null=nullS f v t∧(if f.kind=11 then t.l.length≤32767∧∀ x∈t.l,x.null=false∧Fit1 P f.of f.sub x else Fit1 P f.kind f.sub t)
def FitL (P:List Fld→Tree→Prop) (v:Int) (t:Tree):List Fld→Nat→Prop
 | [],_=>True
 | f :: fs,i=>FitF P v f (t.at i)∧FitL P v t fs (i+1)
def FitP (v:Int):Nat→List Fld→Tree→Prop
 | 0,fs,_=>fs=[]
 | d+1,fs,t=>FitL (FitP v d) v t fs 0∧FitU fs t.u

/-! ### Unknown tags -/
theorem tw_all {α:Type} {p:α→Bool}:∀ {l:List α} {x:α},x∈l.takeWhile p→p x=true
 | [],_,h=>by simp at h
 | a :: l,x,h=>by
  rw [List.takeWhile_cons] at h
  split at h
  ·rename_i hp
   rcases List.mem_cons.1 h with rfl|h
   ·exact hp
   ·exact tw_all h
  ·simp at h
theorem dw_head {α:Type} {p:α→Bool}:∀ {l:List α} {a:α} {r:List α},l.dropWhile p=a :: r→p a=false
 | [],_,_,h=>by simp at h
 | b :: l,a,r,h=>by
  rw [List.dropWhile_cons] at h
  split at h
  ·exact dw_head h
  ·rename_i hp
   simp only [List.cons.injEq] at h
   rw [← h.1];simpa using hp
theorem tw_mem {α:Type} {p:α→Bool} {l:List α} {x:α} (h:x∈l.takeWhile p):x∈l:=by
 rw [← List.takeWhile_append_dropWhile (p:=p) (l:=l)];exact List.mem_append_left _ h
theorem dw_mem {α:Type} {p:α→Bool} {l:List α} {x:α} (h:x∈l.dropWhile p):x∈l:=by
 rw [← List.takeWhile_append_dropWhile (p:=p) (l:=l)];exact List.mem_append_right _ h
theorem insTag_keys {K:Nat} {out:List TagD} {t:TagD} (x:TagD) (h:x∈insTag K out t):x∈out∨(x=t∧K≤t.1):=by
 unfold insTag at h
 split at h
 ·exact .inl h
 ·rename_i hn
  have hK:K≤t.1:=by
   rcases Nat.lt_or_ge t.1 K with h|h
   ·exact absurd (.inl h) hn
   ·exact h
  rcases List.mem_append.1 h with h|h
  ·exact .inl (tw_mem h)
  ·rcases List.mem_cons.1 h with h|h
   ·exact .inr ⟨h,hK⟩
   ·exact .inl (dw_mem h)
theorem insTag_rising {K:Nat} {out:List TagD} {t:TagD} (h:Rising out):Rising (insTag K out t):=by
 unfold insTag
 split
 ·exact h
 ·rename_i hn
  have hsplit:=List.takeWhile_append_dropWhile (p:=fun x:TagD=>decide (x.1 < t.1)) (l:=out)
  have htw:∀ x∈out.takeWhile (fun x:TagD=>decide (x.1 < t.1)),x.1 < t.1:=fun x hx=>by
   simpa using tw_all hx
  unfold Rising at *
  rw [← hsplit,List.pairwise_append] at h
  obtain ⟨h1,h2,h3⟩:=h
  have hdw:∀ x∈out.dropWhile (fun x:TagD=>decide (x.1 < t.1)),t.1 < x.1:=by
   cases hd:out.dropWhile (fun x:TagD=>decide (x.1 < t.1)) with
   | nil=>intro x hx;cases hx
   | cons a r =>
    have ha:¬ (a.1 < t.1):=by
     simpa using dw_head hd
    have hne:a.1≠t.1:=fun e=>hn (.inr (by rw [hd];simp [e]))
    rw [hd] at h2
    intro x hx
    rcases List.mem_cons.1 hx with rfl|hx
    ·omega
    ·have:=(List.pairwise_cons.1 h2).1 x hx;omega
  rw [List.pairwise_append,List.pairwise_cons]
  exact ⟨h1,⟨hdw,h2⟩,fun a ha b hb=>by
   rcases List.mem_cons.1 hb with rfl|hb
   ·exact htw a ha
   ·exact h3 a ha b hb⟩
theorem unknownS_spec (fs:List Fld) (l:List TagD):Rising (unknownS fs l)∧∀ x∈unknownS fs l,x∈l∧knownS fs≤x.1:=by
 have:∀ (l:List TagD) (out:List TagD),Rising out→Rising (l.foldl (insTag (knownS fs)) out)∧∀ x∈l.foldl (insTag (knownS fs)) out,x∈out∨(x∈l∧knownS fs≤x.1):=by
  intro l
  induction l with
  | nil=>intro out h;exact ⟨h,fun x hx=>.inl hx⟩
  | cons t l ih =>
   intro out h
   have:=ih (insTag (knownS fs) out t) (insTag_rising h)
   refine ⟨this.1,fun x hx => ?_⟩
   rcases this.2 x hx with h|h
   ·rcases insTag_keys x h with h|⟨rfl,h⟩
    ·exact .inl h
    ·exact .inr ⟨by simp,h⟩
   ·exact .inr ⟨by simp [h.1],h.2⟩
 have h:=this (l.take 32767) [] List.Pairwise.nil
 refine ⟨h.1,fun x hx => ?_⟩
 rcases h.2 x hx with h|h
 ·cases h
 ·exact ⟨List.mem_of_mem_take h.1,h.2⟩
theorem wholeS_len (s:List UInt8):(wholeS s).length≤32767:=by simp only [wholeS,List.length_take];omega
/-! ### What Fit makes is fit -/
theorem FitP.setNull {v:Int} {d:Nat} {fs:List Fld} {t:Tree} (h:FitP v d fs t) (b:Bool):FitP v d fs (t.setNull b):=by
 cases d with
 | zero=>exact h
 | succ d =>
  have:∀ (l:List Fld) (i:Nat),FitL (FitP v d) v t l i→FitL (FitP v d) v (t.setNull b) l i:=by
   intro l
   induction l with
   | nil=>intro i h;trivial
   | cons f l ih=>intro i h;exact ⟨h.1,ih _ h.2⟩
  exact ⟨this _ _ h.1,h.2⟩
/-! ### What is written of it -/
theorem knownS_none {fs:List Fld} (h:∀ f∈fs,f.tag < 0):knownS fs=0:=by
 have:∀ (fs:List Fld) (n:Nat),(∀ f∈fs,f.tag < 0)→fs.foldl (fun n f=>if 0≤f.tag then max n (f.tag.toNat+1) else n) n=n:=by
  intro fs
  induction fs with
  | nil=>intro n _;rfl
  | cons f fs ih =>
   intro n h
   rw [List.foldl_cons,if_neg (by have:=h f (by simp);omega)]
   exact ih n fun g hg=>h g (by simp [hg])
 exact this fs 0 h
end Ms

namespace Ms
open Go Go.ChangeMaps
section
variable {P : Program} {ρ:Regs} {w w':World} {K:Regs→World→Prop} {d:Option Nat} {type:TypeId} {pos:String} {after:Array Edge} {guard:Option (Nat × Bool)}

theorem wp_raw {o:Oper} {v:Value} (h:(execOp (ev ρ) o).run P w = .ok (.value v) w') (hk:K (put ρ o.dst v) w'):rawK P o ρ w K:=⟨by rw [h];exact hk⟩
theorem wp_skip {o:Oper} (h:(execOp (ev ρ) o).run P w = .ok .skip w') (hk:K (put ρ o.dst undef) w'):rawK P o ρ w K:=⟨by rw [h];exact hk⟩

theorem Upd.setBlock {S:Nat→Prop} {w0:World} (u:Upd S w0 w) (r:Nat) (o:Obj) (h:w0.heap.size≤r∨S r):Upd S w0 (Go.ChangeMaps.setBlock w r o):=by
 refine ⟨u.os,u.tape,u.output,?_,fun b hb hn => ?_⟩
 ·show w0.heap.size≤(w.heap.setIfInBounds r o).size
  rw [Array.size_setIfInBounds];exact u.size
 ·show (w.heap.setIfInBounds r o)[b]? = _
  have hne:r≠b:=fun e=>by
   subst e
   rcases h with h|h
   ·omega
   ·exact hn h
  rw [Array.getElem?_setIfInBounds_ne hne]
  exact u.keep b hb hn
theorem setBlock_same (w:World) (r:Nat) (o:Obj) (h:r < w.heap.size):(Go.ChangeMaps.setBlock w r o).heap[r]? = some o:=by
 show (w.heap.setIfInBounds r o)[r]? = _
 rw [Array.getElem?_setIfInBounds_self_of_lt h]
theorem setBlock_ne (w:World) (r:Nat) (o:Obj) {b:Nat} (h:b≠r):(Go.ChangeMaps.setBlock w r o).heap[b]? = w.heap[b]?:=by
 show (w.heap.setIfInBounds r o)[b]? = _
 rw [Array.getElem?_setIfInBounds_ne (Ne.symm h)]
theorem setBlock_size (w:World) (r:Nat) (o:Obj):(Go.ChangeMaps.setBlock w r o).heap.size=w.heap.size:=by
 show (w.heap.setIfInBounds r o).size=_
 rw [Array.size_setIfInBounds]

theorem wp_makeMap {T:TypeId} (hk:K (put ρ d (.map (some w.heap.size))) (w.alloc (.map #[] 0))) :
  rawK P { dst:=d,op:=.makeMap T none,type:=type,pos:=pos,after:=after,guard:=guard } ρ w K :=
 have h:(Instr.makeMap T none).run P w = .ok (.map (some w.heap.size)) (w.alloc (.map #[] 0)):=rfl
 wp_raw (by simp only [execOp,Option.map_none,Sem.run_bind,h,Result.andThen_ok,Sem.run_pure]) hk

theorem wp_len_map {T k e:TypeId} {x:Operand} {r clock:Nat} {es:Array MapEntry} (hT:P.underlying T=some (.map k e)) (hx:ev ρ x = .map (some r)) (hb:w.heap[r]? = some (.map es clock)) (hk:K (put ρ d (.int .i64 es.size)) w) :
  rawK P { dst:=d,op:=.call { callee:=.builtin .len,args:=#[x],argTypes:=#[T] },type:=type,pos:=pos,after:=after,guard:=guard } ρ w K:=by
 refine wp_raw (v:=.int .i64 es.size) ?_ hk
 have h1:(Builtin.len_ #[T] type #[.map (some r)]).run P w = .ok (.int .i64 es.size) w:=by
  simp [Builtin.len_,run_underlying hT,MapKept.run_getObj_map hb,goInt]
 simp only [execOp,resolve,Sem.run_bind,Sem.run_pure,Result.andThen_ok,invoke,builtin,List.map_toArray,List.map_cons,List.map_nil,hx,h1]
theorem wp_len_nil {T k e:TypeId} {x:Operand} (hT:P.underlying T=some (.map k e)) (hx:ev ρ x = .map none) (hk:K (put ρ d (.int .i64 0)) w) :
  rawK P { dst:=d,op:=.call { callee:=.builtin .len,args:=#[x],argTypes:=#[T] },type:=type,pos:=pos,after:=after,guard:=guard } ρ w K:=by
 refine wp_raw (v:=.int .i64 0) ?_ hk
 have h1:(Builtin.len_ #[T] type #[.map none]).run P w = .ok (.int .i64 0) w:=by
  simp [Builtin.len_,run_underlying hT,goInt]
 simp only [execOp,resolve,Sem.run_bind,Sem.run_pure,Result.andThen_ok,invoke,builtin,List.map_toArray,List.map_cons,List.map_nil,hx,h1]

theorem checkKey_int {k:TypeId} {q:IntKind} (hK:P.underlying k=some (.int q)) (b:Bool) (m:Nat) (n:Int) (w:World):(Instr.checkKey b (m+1) k (.int q n)).run P w = .ok () w:=by
 rw [Instr.checkKey]
 simp only [Sem.run_bind,run_underlying hK,Result.andThen_ok]
 rfl
def KeysU (es:List MapEntry):Prop:=∀ e∈es,∃ n:Int,e.key = .int .u32 n
theorem findNow_none {n:Int}:∀ {es:List MapEntry} {i:Nat},KeysU es→(∀ e∈es,e.key≠.int .u32 n)→Instr.findNow (.int .u32) (.int .u32 n) es i=some none
 | [],_,_,_=>rfl
 | e :: es,i,h1,h2=>by
  obtain ⟨m,hm⟩:=h1 e (by simp)
  have hne:n≠m:=fun h=>h2 e (by simp) (by rw [hm,h])
  have:Instr.sameNow (.int .u32) (.int .u32 n) e.key=some false:=by rw [hm];simp [Instr.sameNow,hne]
  rw [Instr.findNow,this]
  exact findNow_none (fun e he=>h1 e (by simp [he])) fun e he=>h2 e (by simp [he])
theorem findNow_hit {n:Int}:∀ {es:List MapEntry} {i k:Nat} (hk:k < es.length),KeysU es→es[k].key = .int .u32 n→(∀ j (hj:j < es.length),j < k→es[j].key≠.int .u32 n) →
  Instr.findNow (.int .u32) (.int .u32 n) es i=some (some (i+k,es[k].val))
 | e :: es,i,0,hk,h1,h2,_=>by
  simp only [List.getElem_cons_zero] at h2 ⊢
  have:Instr.sameNow (.int .u32) (.int .u32 n) e.key=some true:=by rw [h2];simp [Instr.sameNow]
  rw [Instr.findNow,this];rfl
 | e :: es,i,k+1,hk,h1,h2,h3=>by
  obtain ⟨m,hm⟩:=h1 e (by simp)
  have hne:n≠m:=fun h=>h3 0 (by simp) (by omega) (by simp only [List.getElem_cons_zero];rw [hm,h])
  have:Instr.sameNow (.int .u32) (.int .u32 n) e.key=some false:=by rw [hm];simp [Instr.sameNow,hne]
  rw [Instr.findNow,this]
  simp only [List.getElem_cons_succ] at h2 ⊢
  have:=findNow_hit (i:=i+1) (k:=k) (es:=es) (by simpa using hk) (fun e he=>h1 e (by simp [he])) h2 (fun j hj hjk=>by
   have:=h3 (j+1) (by simpa using hj) (by omega)
   simpa using this)
  rw [this,show i+1+k=i+(k+1) by omega]

theorem wp_mapUpdate {T k e:TypeId} {m x y:Operand} {r clock:Nat} {es:Array MapEntry} {n:Int} {v:Value} (hT:P.underlying T=some (.map k e)) (hK:P.underlying k=some (.int .u32)) (hm:ev ρ m = .map (some r)) (hx:ev ρ x = .int .u32 n) (hy:ev ρ y=v)
  (hb:w.heap[r]? = some (.map es clock)) (h1:KeysU es.toList) (h2:∀ e∈es.toList,e.key≠.int .u32 n) (hk:K (put ρ d undef) (Go.ChangeMaps.setBlock w r (.map (es.push { key:=.int .u32 n,val:=v,born:=clock }) (clock+1)))) :
  rawK P { dst:=d,op:=.mapUpdate T m x y,type:=type,pos:=pos,after:=after,guard:=guard } ρ w K:=by
 refine wp_skip ?_ hk
 have g1:(getObj r).run P w = .ok (.map es clock) w:=MapKept.run_getObj_map hb
 have g2:(Instr.findKey k (.int .u32 n) es.toList).run P w = .ok none w:=by
  simp only [Instr.findKey,Sem.run_bind,run_underlying hK,Result.andThen_ok,findNow_none h1 h2,Sem.run_pure]
 have g3:(Instr.checkKey false 10000 k (.int .u32 n)).run P w = .ok () w:=checkKey_int hK false 9999 n w
 have g4:(setObj r (.map (es.push { key:=.int .u32 n,val:=v,born:=clock }) (clock+1))).run P w = .ok () (Go.ChangeMaps.setBlock w r (.map (es.push { key:=.int .u32 n,val:=v,born:=clock }) (clock+1))):=by
  simp [setObj,Sem.run,hb,Go.ChangeMaps.setBlock]
 simp only [execOp,hm,hx,hy,Instr.mapUpdate,Sem.run_bind,run_underlying hT,Result.andThen_ok,g1,g2,g3,g4,Sem.run_pure]

theorem wp_lookup {T k e:TypeId} {m x:Operand} {r clock i:Nat} {es:Array MapEntry} {n:Int} (hT:P.underlying T=some (.map k e)) (hK:P.underlying k=some (.int .u32)) (hm:ev ρ m = .map (some r)) (hx:ev ρ x = .int .u32 n)
  (hb:w.heap[r]? = some (.map es clock)) (h1:KeysU es.toList) (hi:i < es.size) (h2:es[i].key = .int .u32 n) (h3:∀ j (hj:j < es.size),j < i→es[j].key≠.int .u32 n) (hk:K (put ρ d es[i].val) w) :
  rawK P { dst:=d,op:=.lookup T m x false,type:=type,pos:=pos,after:=after,guard:=guard } ρ w K:=by
 refine wp_raw (v:=es[i].val) ?_ hk
 have g1:(getObj r).run P w = .ok (.map es clock) w:=MapKept.run_getObj_map hb
 have hf:=findNow_hit (i:=0) (k:=i) (es:=es.toList) (n:=n) (by simpa using hi) h1 (by simpa using h2) (fun j hj hji=>by simpa using h3 j (by simpa using hj) hji)
 have g2:(Instr.findKey k (.int .u32 n) es.toList).run P w = .ok (some (i,es[i].val)) w:=by
  simp only [Instr.findKey,Sem.run_bind,run_underlying hK,Result.andThen_ok,hf,Sem.run_pure]
  simp
 have g3:∀ b,(Instr.checkKey b 10000 k (.int .u32 n)).run P w = .ok () w:=fun b=>checkKey_int hK b 9999 n w
 simp only [execOp,hm,hx,Instr.lookup,Sem.run_bind,run_underlying hT,Result.andThen_ok,g1,g2,g3,Sem.run_pure,Bool.false_eq_true,if_false]

theorem wp_range {T k e:TypeId} {x:Operand} {r clock:Nat} {es:Array MapEntry} (hT:P.underlying T=some (.map k e)) (hx:ev ρ x = .map (some r)) (hb:w.heap[r]? = some (.map es clock))
  (hk:K (put ρ d (.pointer (some ⟨w.heap.size,0,none⟩))) (w.alloc (.mapIter (some r) clock #[] clock))) :
  rawK P { dst:=d,op:=.range T x,type:=type,pos:=pos,after:=after,guard:=guard } ρ w K:=by
 refine wp_raw ?_ hk
 simp only [execOp,hx,Sem.run_bind,run_range_map w T k e r es clock hT hb,Result.andThen_ok,Sem.run_pure]
theorem wp_next {x:Operand} {r b since c0 clock:Nat} {seen:Array Nat} {es:Array MapEntry} (hx:ev ρ x = .pointer (some ⟨r,0,none⟩)) (hr:w.heap[r]? = some (.mapIter (some b) since seen c0)) (hb:w.heap[b]? = some (.map es clock)) (hold:∀ x∈es.toList,x.born < since) (hsc:since≤c0)
  (h0:(leftOf es seen).size=0→K (put ρ d (.tuple #[.bool false])) w)
  (h1:∀ e∈(leftOf es seen).toList,∀ w1,(w1=w∨w1=w.drew)→K (put ρ d (.tuple #[.bool true,e.key,e.val])) (Go.ChangeMaps.setBlock w1 r (.mapIter (some b) since (seen.push e.born) clock))) :
  rawK P { dst:=d,op:=.next x false,type:=type,pos:=pos,after:=after,guard:=guard } ρ w K:=by
 rcases run_next_at (P:=P) w type r b since c0 seen es clock hr hb hold hsc with ⟨hs,hrun⟩|⟨e,he,w1,hw1,hrun⟩
 ·refine wp_raw ?_ (h0 hs)
  simp only [execOp,hx,Sem.run_bind,hrun,Result.andThen_ok,Sem.run_pure]
 ·refine wp_raw ?_ (h1 e he w1 hw1)
  simp only [execOp,hx,Sem.run_bind,hrun,Result.andThen_ok,Sem.run_pure]
end
end Ms

namespace Ms
open Go

def Agree (ρ ρ':Regs):List Nat→Prop
 | []=>True
 | r :: l=>ρ' r=ρ r∧Agree ρ ρ' l
theorem Agree.refl (ρ:Regs):∀ l,Agree ρ ρ l
 | []=>trivial
 | _ :: l=>⟨rfl,Agree.refl ρ l⟩
end Ms

