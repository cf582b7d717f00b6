/- A part of the proof: see the last text. -/
import Derived.Laws.IdiomStrings
import Derived.Shelf.GgSortFunc.Whole
import Derived.Shelf.GgSortFunc.Tiny
import Derived.Test.YtbbhfngjfihndadDoorProg
import Derived.KernelRfl
import Derived.Test.YtbbhfngjfihndadDoorC00
import Derived.Test.YtbbhfngjfihndadDoorC02
import Derived.Test.YtbbhfngjfihndadDoorC03
import Derived.Test.YtbbhfngjfihndadDoorC04
import Derived.Test.YtbbhfngjfihndadDoorC05
set_option linter.unusedSimpArgs false
set_option linter.unusedVariables false
namespace Ms
open Go

def exitRQ (i:Nat) (J Qr:Regs→World→Prop):Exit→Regs→World→Prop:=fun e ρ w=>(e = .exit i∧J ρ w)∨(e = .ret∧Qr ρ w)
theorem exitRQ_exit (i:Nat) (J Qr:Regs→World→Prop) (ρ:Regs) (w:World):exitRQ i J Qr (.exit i) ρ w=J ρ w:=by simp [exitRQ]
theorem exitRQ_ret (i:Nat) (J Qr:Regs→World→Prop) (ρ:Regs) (w:World):exitRQ i J Qr .ret ρ w=Qr ρ w:=by simp [exitRQ]
theorem W.exitRJ {P:Program} {n:Nat} {c:Code} {Q:Exit→Regs→World→Prop} {ρ:Regs} {w:World} (i:Nat) (J:Regs→World→Prop) (h:W P n c (exitRQ i J (Q .ret)) ρ w) (hq:∀ ρ w,J ρ w→Q (.exit i) ρ w):W P n c Q ρ w :=
 h.mono fun e ρ w he=>by
  rcases he with ⟨rfl,hj⟩|⟨rfl,hj⟩
  ·exact hq ρ w hj
  ·exact hj

def ReadQ (T:TypeId) (ok:Blocks) (ver:Int) (d:Nat) (fs:List Fld) (vb:Nat) (w:World) (fin:Tree × St) (ev:Value) (r:Value) (w':World):Prop :=
 (fin.2=none→r=ev)∧(fin.2≠none→r = .nilIface∧∃ cells,blk w' vb=some ((.int .i16 ver :: cells).toArray,T,(0,0))∧RepS true d fs (okN ok w.heap.size) w' fin.1 cells)∧Upd (fun b=>b=vb) w w'
theorem ReadQ.bad {T:TypeId} {ok:Blocks} {ver:Int} {d:Nat} {fs:List Fld} {vb:Nat} {w:World} {fin:Tree × St} {ev:Value} {w':World} (h:fin.2=none) (hu:Upd (fun b=>b=vb) w w'):ReadQ T ok ver d fs vb w fin ev ev w' :=
 ⟨fun _=>rfl,fun h'=>absurd h h',hu⟩

def setL (cs:List Value) (o:Nat):List Value→List Value
 | []=>cs
 | v :: vs=>setL (cs.set o v) (o+1) vs
theorem el_sets {A B:List Value}:∀ (vs cs:List Value) (o:Nat),o+vs.length≤cs.length→wrArr ((A++(cs++B)).toArray) (A.length+o) vs=(A++(setL cs o vs++B)).toArray
 | [],cs,o,_=>rfl
 | v :: vs,cs,o,h=>by
  simp only [List.length_cons] at h
  rw [wrArr,el_set (cs:=cs) (by omega),Nat.add_assoc,el_sets vs (cs.set o v) (o+1) (by rw [List.length_set];omega),setL]
theorem el_blk {w:World} {R k o:Nat} {A cs B vs:List Value} {E:TypeId} {fr:Nat × Nat} (hb:blk w R=some ((A++(cs++B)).toArray,E,fr)) (hA:A.length=k) (h:o+vs.length≤cs.length):blk (wr w R (k+o) vs) R=some ((A++(setL cs o vs++B)).toArray,E,fr):=by
 subst hA
 rw [blk_wr_eq,hb,Option.map_some]
 simp only [el_sets vs cs o h]
theorem el_blk0 {w:World} {R k:Nat} {A cs B vs:List Value} {E:TypeId} {fr:Nat × Nat} (hb:blk w R=some ((A++(cs++B)).toArray,E,fr)) (hA:A.length=k) (h:vs.length≤cs.length):blk (wr w R k vs) R=some ((A++(setL cs 0 vs++B)).toArray,E,fr):=by
 have:=el_blk (o:=0) (vs:=vs) hb hA (by omega)
 rw [Nat.add_zero] at this;exact this
theorem el_cell {R k o:Nat} {A cs B:List Value} (hA:A.length=k) (ho:o < cs.length):((A++(cs++B)).toArray)[k+o]? = cs[o]?:=by subst hA;exact el_get ho
theorem SlR.row {α:Type} {Rl:Rel α} {ok:Blocks} {w:World} {E:TypeId} {fr:Nat × Nat} {r q size:Nat} {css:List (List Value)} {rest:List Value} {xs:List α} (hb:blk w r=some ((css.flatten++rest).toArray,E,fr)) (hok:ok r) (hc:Css size css) (hq:css.length≤q) (ha:All2 (Rl ok w) xs css) :
  SlR ok w size (Rl ok w) (.slice (some ⟨r,0,none⟩) css.length q) xs :=
 ⟨css,⟨_,q,rfl,hq,hc,.inr ⟨_,rfl,rfl,hok,_,hb,fun i hi=>by
  simp only [Nat.zero_add,List.getElem?_toArray]
  exact List.getElem?_append_left hi⟩⟩,ha⟩

theorem rdMany_succ (r:St→Tree × St) (n:Nat) (s:St):rdMany r (n+1) s=((r s).1 :: (rdMany r n (r s).2).1,(rdMany r n (r s).2).2):=rfl
theorem rdMany_step {r:St→Tree × St} {N j:Nat} {s1 s:St} {xs:List Tree} (h:rdMany r N s1=(xs++(rdMany r (N - j) s).1,(rdMany r (N - j) s).2)) (hj:j < N) :
  rdMany r N s1=((xs++[(r s).1])++(rdMany r (N - (j+1)) (r s).2).1,(rdMany r (N - (j+1)) (r s).2).2):=by
 have e:N - j=(N - (j+1))+1:=by omega
 rw [e,rdMany_succ] at h
 rw [h];simp
theorem rdL_st {pt:List Fld→St→Tree × St} {dp:List Fld→Tree} {v:Int} {flex:Bool} {f:Fld} {fs:List Fld} {s:St} (ht:f.tag < 0) (hh:hasS f v=true):rdL pt dp v flex (f :: fs) s=((rdF pt v flex f s).1 :: (rdL pt dp v flex fs (rdF pt v flex f s).2).1,(rdL pt dp v flex fs (rdF pt v flex f s).2).2):=by
 rw [rdL,if_pos ⟨ht,hh⟩]
theorem rdL_no {pt:List Fld→St→Tree × St} {dp:List Fld→Tree} {v:Int} {flex:Bool} {f:Fld} {fs:List Fld} {s:St} (hh:hasS f v=false):rdL pt dp v flex (f :: fs) s=(dfF dp f :: (rdL pt dp v flex fs s).1,(rdL pt dp v flex fs s).2):=by
 rw [rdL,if_neg (by rw [hh];simp)]
theorem rdP_t {d:Nat} {v:Int} {fs:List Fld} {s:St} {l:List Tree} {e:St} (h:rdL (rdP d v true) (dfP d) v true fs s=(l,e)):rdP (d+1) v true fs s=(.mk 0 [] false l (rdTags e).1,(rdTags e).2):=by
 rw [rdP,if_pos rfl,h]
section
variable {pt : List Fld→St→Tree × St} {v:Int} {flex:Bool} {f:Fld} {s:St}
theorem rdF_num (k:Int) (hk:f.kind=k) (h:k=1∨k=2∨k=3∨k=4∨k=5):rdF pt v flex f s=(.num (rdInt (kindK k) (widthS k) s).1,(rdInt (kindK k) (widthS k) s).2):=by
 unfold rdF rd1
 rw [if_neg (by omega),if_neg (by omega),if_neg (by omega),if_neg (by omega),if_neg (by omega),if_neg (by omega),hk]
theorem rdF_uuid (hk:f.kind=7):rdF pt v flex f s=(.oct false (uuidS (rdSpan 16 s).1),(rdSpan 16 s).2):=by
 unfold rdF rd1;rw [if_neg (by omega),if_neg (by omega),if_pos hk]
theorem rdF_text (hk:f.kind=8) (hm:mayS f v=false):rdF pt v flex f s=(.oct false (rdStr flex s).1,(rdStr flex s).2):=by
 unfold rdF rd1;rw [if_neg (by omega),if_neg (by omega),if_neg (by omega),if_pos hk,hm,if_neg (by decide)]
end
theorem mayS_no {f:Fld} {v:Int} (h:f.null < 0∨v < f.null):mayS f v=false:=by
 unfold mayS;simp only [Bool.and_eq_false_iff,decide_eq_false_iff_not];omega
theorem rd1_num {pt:List Fld→St→Tree × St} {sub:List Fld} {may flex:Bool} {s:St} (k:Int) (h:k=1∨k=2∨k=3∨k=4∨k=5):rd1 pt k sub may flex s=(.num (rdInt (kindK k) (widthS k) s).1,(rdInt (kindK k) (widthS k) s).2):=by
 unfold rd1
 rw [if_neg (by omega),if_neg (by omega),if_neg (by omega),if_neg (by omega),if_neg (by omega)]
theorem rd1_part {pt:List Fld→St→Tree × St} {sub:List Fld} {flex:Bool} {s:St}:rd1 pt 10 sub false flex s=pt sub s:=by
 unfold rd1;rw [if_neg (by omega),if_neg (by omega),if_neg (by omega),if_neg (by omega),if_pos rfl]
theorem wrap_wrap (k:IntKind) (n:Int):k.wrap (k.wrap n)=k.wrap n:=by
 cases k<;>simp [IntKind.wrap,IntKind.bits,IntKind.signed]<;>(try split)<;>(try split)<;>omega
theorem numC_rd (k:Int) (h:k=1∨k=2∨k=3∨k=4∨k=5) (n:Nat) (s:St):numC k (rdInt (kindK k) n s).1 = .int (kindK k) (rdInt (kindK k) n s).1:=by
 unfold rdInt
 rcases h with h|h|h|h|h<;>subst h<;>simp [numC,kindK,wrap_wrap]
theorem RepS.introT {d:Nat} {fs:List Fld} {ok:Blocks} {w:World} {t:Tree} {c:List Value} {v:Value} (h1:RepL (RepS true d) (szS true d) ok w t fs 0 c) (h2:TagsM ok w v t.u):RepS true (d+1) fs ok w t (c++[v]):=RepS.intro rfl h1 h2

structure RowJ (size:Nat) (E:TypeId) (zc:List Value) (L N j:Nat) (va:Value) (css:List (List Value)) (w:World):Prop where
 len:css.length=j
 wid:Css size css
 row:(N=0∧∃ a,va = .slice a 0 0∧∀ x,a=some x→L≤x.block∧x.block < w.heap.size)∨(0 < N∧∃ R q rest,va = .slice (some ⟨R,0,none⟩) N q∧N≤q∧L≤R∧blk w R=some ((css.flatten++(zs zc (N - j)++rest)).toArray,E,(0,0)))
theorem RowJ.empty (size:Nat) (E:TypeId) (zc:List Value) (L:Nat) (w:World):RowJ size E zc L 0 0 (.slice none 0 0) [] w:=⟨rfl,by simp [Css],.inl ⟨rfl,_,rfl,fun _ h=>by cases h⟩⟩
theorem RowJ.start {size:Nat} {E:TypeId} {zc:List Value} {L N R q:Nat} {rest:List Value} {w:World} (h0:0 < N) (hq:N≤q) (hL:L≤R) (hb:blk w R=some ((zs zc N++rest).toArray,E,(0,0))):RowJ size E zc L N 0 (.slice (some ⟨R,0,none⟩) N q) [] w :=
 ⟨rfl,by simp [Css],.inr ⟨h0,R,q,rest,rfl,hq,hL,by simpa using hb⟩⟩
theorem RowJ.upd {size:Nat} {E:TypeId} {zc:List Value} {L N j:Nat} {va:Value} {css:List (List Value)} {w w':World} {S:Nat→Prop} (h:RowJ size E zc L N j va css w) (u:Upd S w w') (hs:∀ b,ownB va b→¬ S b):RowJ size E zc L N j va css w':=by
 refine ⟨h.len,h.wid,?_⟩
 rcases h.row with ⟨h0,a,h1,h2⟩|⟨h0,R,q,rest,h1,h2,h3,h4⟩
 ·exact .inl ⟨h0,a,h1,fun x hx=>⟨(h2 x hx).1,by have:=(h2 x hx).2;have:=u.size;omega⟩⟩
 ·exact .inr ⟨h0,R,q,rest,h1,h2,h3,u.blk_some h4 (hs R ⟨_,_,_,h1,rfl⟩)⟩
theorem RowJ.shape {size:Nat} {E:TypeId} {zc:List Value} {L N j:Nat} {va:Value} {css:List (List Value)} {w:World} (h:RowJ size E zc L N j va css w):∃ a q,va = .slice a N q:=by
 rcases h.row with ⟨rfl,a,rfl,_⟩|⟨_,R,q,rest,rfl,_⟩
 ·exact ⟨_,_,rfl⟩
 ·exact ⟨_,_,rfl⟩
theorem RowJ.next {size:Nat} {E:TypeId} {zc:List Value} {L N j:Nat} {va:Value} {css:List (List Value)} {w:World} (h:RowJ size E zc L N j va css w) (hj:j < N) :
  ∃ R q B,va = .slice (some ⟨R,0,none⟩) N q∧N≤q∧L≤R∧css.flatten.length=j * size∧blk w R=some ((css.flatten++(zc++B)).toArray,E,(0,0)) ∧
   ∀ (w':World) (c:List Value),c.length=size→blk w' R=some ((css.flatten++(c++B)).toArray,E,(0,0))→RowJ size E zc L N (j+1) va (css++[c]) w':=by
 rcases h.row with ⟨h0,_⟩|⟨h0,R,q,rest,h1,h2,h3,h4⟩
 ·omega
 ·have hl:=flatten_len h.wid
  rw [h.len] at hl
  have e:N - j=(N - (j+1))+1:=by omega
  rw [e,zs_succ,List.append_assoc] at h4
  refine ⟨R,q,zs zc (N - (j+1))++rest,h1,h2,h3,hl,h4,fun w' c hc hb=>⟨by simp [h.len],fun cs hm => ?_,.inr ⟨h0,R,q,rest,h1,h2,h3,?_⟩⟩⟩
  ·rcases List.mem_append.1 hm with hm|hm
   ·exact h.wid _ hm
   ·simp only [List.mem_singleton] at hm;rw [hm];exact hc
  ·rw [hb];simp [List.append_assoc]
theorem All2.snoc {α β:Type} {R:α→β→Prop} {xs:List α} {ys:List β} {x:α} {y:β} (h:All2 R xs ys) (hx:R x y):All2 R (xs++[x]) (ys++[y]):=by
 refine ⟨by simp [h.1],fun i h1 h2 => ?_⟩
 simp only [List.length_append,List.length_cons,List.length_nil] at h1 h2
 have h3:=h.1
 by_cases hi:i < xs.length
 ·rw [List.getElem_append_left hi,List.getElem_append_left (by omega)]
  exact h.2 i hi (by omega)
 ·have:i=xs.length:=by omega
  subst this
  rw [List.getElem_append_right (Nat.le_refl _),List.getElem_append_right (by omega)]
  simpa [h3] using hx
theorem RepF_row {d:Nat} {f:Fld} {v:Int} {ok:Blocks} {w:World} {size:Nat} {E:TypeId} {zc:List Value} {L N:Nat} {n:Int} {va:Value} {css:List (List Value)} {xs:List Tree} (hk:f.kind=11) (hn:N=0→if nilS f v n=true then va = .slice none 0 0 else ∃ a,va = .slice (some a) 0 0) (hN:N=n.toNat) (hsz:sz1 (szS true d) f.of f.sub=size)
  (hr:RowJ size E zc L N N va css w) (ha:All2 (Rep1 (RepS true d) f.of f.sub (fun b=>ok b∧¬ ownB va b) w) xs css) (hL:∀ b,L≤b→ok b):RepF (RepS true d) (szS true d) f ok w (.mk 0 [] (nilS f v n) xs []) [va]:=by
 unfold RepF
 rw [if_neg (by omega),if_pos hk]
 refine ⟨va,rfl,?_⟩
 have hl:=hr.len
 rcases hr.row with ⟨h0,_⟩|⟨h0,R,q,rest,rfl,h2,h3,h4⟩
 ·have hv:=hn h0
  by_cases hnl:nilS f v n=true
  ·rw [if_pos hnl] at hv
   show (if nilS f v n=true then _ else _)
   rw [if_pos hnl];exact hv
  ·rw [if_neg hnl] at hv
   obtain ⟨a,rfl⟩:=hv
   show (if nilS f v n=true then _ else _)
   rw [if_neg hnl]
   have hc:css=[]:=List.length_eq_zero_iff.1 (by omega)
   subst hc
   have hx:xs=[]:=List.length_eq_zero_iff.1 ha.1
   subst hx
   exact ⟨⟨[],⟨_,_,rfl,Nat.le_refl _,(fun _ h=>by cases h),.inl rfl⟩,rfl,fun i h=>absurd h (Nat.not_lt_zero i)⟩,_,_,_,rfl⟩
 ·have:nilS f v n=false:=by
   unfold nilS
   split
   ·simp only [Bool.and_eq_false_iff,decide_eq_false_iff_not];omega
   ·simp only [decide_eq_false_iff_not];omega
  show (if nilS f v n=true then _ else _)
  rw [if_neg (by rw [this];decide),hsz]
  refine ⟨?_,_,_,_,rfl⟩
  have h5:All2 (Rep1 (RepS true d) f.of f.sub ok w) xs css:=ha.imp fun x c hc=>(Rep1_lay f.of f.sub fun _=>RepS_lay true d _).weaken hc fun b _ hb=>hb.1
  have:=SlR.row (Rl:=Rep1 (RepS true d) f.of f.sub) (size:=size) (css:=css) (fr:=(0,0)) h4 (hL R h3) hr.wid (by rw [hl];exact h2) h5
  rw [hl] at this
  exact this
theorem nilS_plain {f:Fld} {v n:Int} (h:f.null < 0) (h0:n≤0):nilS f v n=true:=by unfold nilS;rw [if_neg (by omega)];exact decide_eq_true h0
theorem RepF_nil {R:List Fld→Rel Tree} {S:List Fld→Nat} {f:Fld} {ok:Blocks} {w:World} (hk:f.kind=11):RepF R S f ok w (.mk 0 [] true [] []) [.slice none 0 0]:=by
 unfold RepF
 rw [if_neg (by omega),if_pos hk]
 exact ⟨_,rfl,rfl⟩
theorem ownB_row {R n q b:Nat} (h:ownB (.slice (some ⟨R,0,none⟩) n q) b):b=R:=by
 obtain ⟨a,k,c,h1,h2⟩:=h
 simp only [Value.slice.injEq,Option.some.injEq] at h1
 rw [h2,← h1.1]
theorem Rdr.store {T:TypeId} {ok:Blocks} {w:World} {rb B o:Nat} {vs:List Value} {st:St} (h:Rdr T ok w rb st∧NN w rb st) (h1:¬ rb=B) (h2:ok B→False):Rdr T ok (wr w B o vs) rb st∧NN (wr w B o vs) rb st:=by
 have u:Upd (fun b=>b=B) w (wr w B o vs):=(Upd.refl _ _).wr _ _ (.inr rfl)
 exact ⟨h.1.upd u h1 fun b _ hk e=>h2 (e ▸ hk),h.2.upd u h1⟩
end Ms

namespace Ms
open Go.World renaming size_alloc → qI
open Ms renaming size_wr → qJ,size_drew → qK,not_noB → qL
open W renaming seqR → qA,seq → qB,regR → qC,condK → qD,block → qE,skip → qF,ret → qG,exit → qH
open Nat renaming reduceEqDiff → n0,reduceAdd → n1,reduceMul → n2,reduceSub → n3,reduceLT → n4,reduceLeDiff → n5
open Int renaming reduceEq → i0,reduceLT → i1,reduceLE → i2,reduceNeg → i3,reduceAdd → i4,reduceSub → i5,reduceMul → i6,reduceToNat → i7
set_option maxRecDepth 8000
open Go Go.Proofs Go.Shelf
attribute [local congr] W_congr WPsq_congr WPp_congr optK_congr addrK_congr intK_congr boolK_congr sliceK_congr tupleK_congr funcK_congr Fn_congr rawK_congr takeK_congr stepK_congr convK_congr aggK_congr

theorem TagsSet_old {tb to r clock i:Nat} {x:Blk} {es:Array MapEntry} (w:World) (hb:blk w tb=some x) (hm:x.1[to]? = some (.map (some r))) (hr:w.heap[r]? = some (.map es clock)) (k:Nat) (vv:Value) (h1:KeysU es.toList) (hi:i < es.size) (h2:es[i].key = .int .u32 k) (h3:∀ j (hj:j < es.size),j < i→es[j].key≠.int .u32 k) :
  Fn Tryd.prog 49 #[.pointer (some ⟨tb,to,none⟩),.int .u32 k,vv] w fun _ w' =>
   w'=Go.ChangeMaps.setBlock w r (.map (es.modify i fun e=>{ e with key:=.int .u32 k,val:=vv }) clock):=by
 refine fn_of_W Tryd.func49 rfl Tryd.results49 Tryd.ntmps49 rfl ?_
 repeat ((first|refine qA rfl ?_|apply qB|refine qC rfl ?_|apply qD|apply qE|apply qF|apply qG|apply qH);try simp (maxSteps:=1000000)(disch:=(first|omega|(simp only [qI,qJ,qK]<;>omega)|exact qL _)) only [go_sem,↓reduceIte,n0,reduceCtorEq,n1,n2,n3,n4,n5,i0,i1,i2,i3,i4,i5,i6,i7,hb,hm])
 refine wp_mapPut (n:=(k:Int)) (v:=vv) tagsT u32T (by simp (maxSteps:=1000000)(disch:=(first|omega|(simp only [qI,qJ,qK]<;>omega)|exact qL _)) only [go_sem,↓reduceIte,n0,reduceCtorEq,n1,n2,n3,n4,n5,i0,i1,i2,i3,i4,i5,i6,i7]) (by simp (maxSteps:=1000000)(disch:=(first|omega|(simp only [qI,qJ,qK]<;>omega)|exact qL _)) only [go_sem,↓reduceIte,n0,reduceCtorEq,n1,n2,n3,n4,n5,i0,i1,i2,i3,i4,i5,i6,i7]) (by simp (maxSteps:=1000000)(disch:=(first|omega|(simp only [qI,qJ,qK]<;>omega)|exact qL _)) only [go_sem,↓reduceIte,n0,reduceCtorEq,n1,n2,n3,n4,n5,i0,i1,i2,i3,i4,i5,i6,i7]) hr h1 hi h2 h3 ?_
 simp (maxSteps:=1000000)(disch:=(first|omega|(simp only [qI,qJ,qK]<;>omega)|exact qL _)) only [go_sem,↓reduceIte,n0,reduceCtorEq,n1,n2,n3,n4,n5,i0,i1,i2,i3,i4,i5,i6,i7]
 repeat ((first|refine qA rfl ?_|apply qB|refine qC rfl ?_|apply qD|apply qE|apply qF|apply qG|apply qH);try simp (maxSteps:=1000000)(disch:=(first|omega|(simp only [qI,qJ,qK]<;>omega)|exact qL _)) only [go_sem,↓reduceIte,n0,reduceCtorEq,n1,n2,n3,n4,n5,i0,i1,i2,i3,i4,i5,i6,i7])

theorem TagsPut_fn {okT:Blocks} {L vb o:Nat} {x:Blk} {m:Value} {u:List TagD} (w:World) (hG:TagsG okT L w m u) (hL:L≤w.heap.size) (hvL:vb < L) (hb:blk w vb=some x) (hm:x.1[o]? = some m) (hth:thaw x.2.2 o 1=true)
  (y:TagD) (vv:Value) (hval:BytesV (fun b=>okT b∧b < L) w vv y.2) (hy:y.1 < 2 ^ 32) (hnd:(u.map (·.1)).Nodup) (hoT:∀ b,okT b→b≠vb) :
  Fn Tryd.prog 49 #[.pointer (some ⟨vb,o,none⟩),.int .u32 y.1,vv] w fun _ w'=>∃ m',blk w' vb=some (x.1.setIfInBounds o (.map m'),x.2)∧TagsG okT L w' (.map m') (tagPut u y)∧Upd (fun b=>b=vb∨m = .map (some b)) w w':=by
 by_cases hnew:∀ z∈u,z.1≠y.1
 ·rw [tagPut_new hnew]
  exact TagsSet_fn w hG hL hvL hb hm hth y vv hval hy hnew hoT
 ·obtain ⟨z,hz,he⟩:∃ z,z∈u∧z.1=y.1:=by
   apply Classical.byContradiction
   intro hc
   exact hnew fun z hz he=>hc ⟨z,hz,he⟩
  obtain ⟨i,hi,rfl⟩:=List.getElem_of_mem hz
  rw [tagPut_old hi he hnd]
  rcases hG with ⟨rfl,rfl⟩|⟨r,es,clock,rfl,g2,g3,g4,g5,g6⟩
  ·simp at hi
  ·have hKU:=tm_keysU g4 g5
   have hkey:∀ j (hj:j < es.size),es[j].key = .int .u32 y.1→j=i:=by
    intro j hj hk
    have h1:=(g5 j (by omega) hj).1.key
    rw [h1] at hk
    simp only [Value.int.injEq,true_and] at hk
    have hk2:u[j].1=u[i].1:=by rw [he];omega
    have hn2:=List.pairwise_iff_getElem.1 (List.nodup_iff_pairwise_ne.1 hnd)
    rcases Nat.lt_trichotomy i j with h3|h3|h3
    ·have:=hn2 i j (by simpa using hi) (by simp;omega) h3
     simp only [List.getElem_map] at this
     exact absurd hk2.symm this
    ·exact h3.symm
    ·have:=hn2 j i (by simp;omega) (by simpa using hi) h3
     simp only [List.getElem_map] at this
     exact absurd hk2 this
   refine (TagsSet_old (i:=i) w hb hm g3 y.1 vv hKU (by omega) ?_ ?_).mono ?_
   ·rw [(g5 i hi (by omega)).1.key,he]
   ·intro j hj hji hk
    have:=hkey j hj hk
    omega
   ·rintro _ w' rfl
    have hU2:Upd (fun b=>b=vb∨Value.map (some r) = .map (some b)) w _:=(Upd.refl _ w).setBlock r (.map (es.modify i fun e=>{ e with key:=.int .u32 y.1,val:=vv }) clock) (.inr (.inr rfl))
    have hkp:Keeps (fun b=>okT b∧b < L) w _:=hU2.keeps fun b hb hk h=>by
     rcases h with h|h
     ·exact hoT b hk.1 h
     ·cases h;have:=hk.2;omega
    have hp:=tagE_set (i:=i) g4 (fun i h1 h2=>⟨(g5 i h1 h2).1.keep hkp,(g5 i h1 h2).2⟩) hi hy (hval.keep hkp)
    refine ⟨some r,?_,.inr ⟨r,_,clock,rfl,g2,setBlock_same _ _ _ (heap_lt g3),hp.1,hp.2,inj_set (fun _=>rfl) g6⟩,hU2⟩
    rw [blk_of_heap (setBlock_ne _ _ _ (by
     intro e
     subst e
     have h8:=blk_lt hb
     unfold blk at hb
     rw [g3] at hb
     cases hb)),hb]
    have e:x.1.setIfInBounds o (.map (some r))=x.1:=by
     apply Array.ext_getElem?
     intro k
     rw [Array.getElem?_setIfInBounds]
     split
     ·rename_i h;subst h
      rw [if_pos (Array.getElem?_eq_some_iff.1 hm).1];exact hm.symm
     ·rfl
    rw [e]

def TagsQ (ok:Blocks) (rb:Nat) (w:World) (st:St) (r:Value) (w':World):Prop :=
 ∃ q,r = .agg #[.map q]∧TagsM (okN ok w.heap.size) w' (.map q) (rdTags st).1∧((rdTags st).1.map (·.1)).Nodup∧RdB RT ok rb w (rdTags st).2 w'
set_option maxHeartbeats 2000000 in
theorem ReadTags_fn {ok:Blocks} {rb:Nat} {st:St} (w:World) (h0:Rdr RT ok w rb st) (hr0:¬ ok rb) :
  Fn Tryd.prog 37 #[.pointer (some ⟨rb,0,none⟩)] w (TagsQ ok rb w st):=by
 have hrl:=h0.lt
 have h:=h0.weaken (ok':=fun b=>ok b∧b < w.heap.size) fun b hb hk=>⟨hk,hb⟩
 have hr:¬ (fun b=>ok b∧b < w.heap.size) rb:=fun h=>hr0 h.1
 have hE1:Ext w ((w.alloc (.cells #[.map none] 55)).alloc (.cells #[.map none] 55)):=Upd.alloc (Upd.alloc (Upd.refl _ _) _) _
 have hb2:blk ((w.alloc (.cells #[.map none] 55)).alloc (.cells #[.map none] 55)) w.heap.size=some (#[.map none],55,(0,0)):=by simp (maxSteps:=1000000)(disch:=(first|omega|(simp only [qI,qJ,qK]<;>omega)|exact qL _)) only [go_sem,↓reduceIte,n0,reduceCtorEq,n1,n2,n3,n4,n5,i0,i1,i2,i3,i4,i5,i6,i7]
 have hb3:blk ((w.alloc (.cells #[.map none] 55)).alloc (.cells #[.map none] 55)) (w.heap.size+1)=some (#[.map none],55,(0,0)):=by simp (maxSteps:=1000000)(disch:=(first|omega|(simp only [qI,qJ,qK]<;>omega)|exact qL _)) only [go_sem,↓reduceIte,n0,reduceCtorEq,n1,n2,n3,n4,n5,i0,i1,i2,i3,i4,i5,i6,i7]
 have hz1:((w.alloc (.cells #[.map none] 55)).alloc (.cells #[.map none] 55)).heap.size=w.heap.size+2:=by simp only [World.size_alloc]
 refine fn_of_W Tryd.func37 rfl Tryd.results37 Tryd.ntmps37 rfl ?_
 repeat ((first|refine qA rfl ?_|apply qB|refine qC rfl ?_|apply qD|apply qE|apply qF|apply qG|apply qH);try simp (maxSteps:=1000000)(disch:=(first|omega|(simp only [qI,qJ,qK]<;>omega)|exact qL _)) only [go_sem,↓reduceIte,n0,reduceCtorEq,n1,n2,n3,n4,n5,i0,i1,i2,i3,i4,i5,i6,i7])
 generalize ((w.alloc (.cells #[.map none] 55)).alloc (.cells #[.map none] 55))=w1 at *
 refine (RUvarint_fn w1 (h.upd hE1 (fun h=>h) (fun _ _ _ h=>h)) hr).mono ?_
 rintro _ w2 ⟨rfl,⟨h2,hn2⟩,hu2⟩
 have hlt:=rdUv_lt st
 have hz2:=hu2.size
 have hbb2:=hu2.blk_some hb2 (by omega)
 have hbb3:=hu2.blk_some hb3 (by omega)
 have hU2:Upd (fun b=>b=rb) w w2:=(hE1.mono fun _ h=>h.elim).trans hu2
 repeat ((first|refine qA rfl ?_|apply qB|refine qC rfl ?_|apply qD|apply qE|apply qF|apply qG|apply qH);try simp (maxSteps:=1000000)(disch:=(first|omega|(simp only [qI,qJ,qK]<;>omega)|exact qL _)) only [go_sem,↓reduceIte,n0,reduceCtorEq,n1,n2,n3,n4,n5,i0,i1,i2,i3,i4,i5,i6,i7])
 refine W.exitJ 0 (fun ρ w'=>∃ q,ρ 2 = .pointer (some ⟨w.heap.size,0,none⟩)∧ρ 3 = .pointer (some ⟨w.heap.size+1,0,none⟩)∧blk w' (w.heap.size+1)=some (#[.map q],55,(0,0))∧blk w' w.heap.size=some (#[.map none],55,(0,0))∧TagsG (fun b=>ok b∧b < w.heap.size) (w.heap.size+2) w' (.map q) (rdTags st).1∧((rdTags st).1.map (·.1)).Nodup∧(Rdr RT (fun b=>ok b∧b < w.heap.size) w' rb (rdTags st).2∧NN w' rb (rdTags st).2)∧Upd (fun b=>b=rb) w w')
  (W.loop (fun ρ w'=>∃ (n:Nat) (u:List TagD) (s:St) (q:Option Nat),n < 4294967296∧ρ 0 = .pointer (some ⟨rb,0,none⟩)∧ρ 2 = .pointer (some ⟨w.heap.size,0,none⟩)∧ρ 3 = .pointer (some ⟨w.heap.size+1,0,none⟩)∧ρ 4 = .int .u32 n∧blk w' (w.heap.size+1)=some (#[.map q],55,(0,0))∧blk w' w.heap.size=some (#[.map none],55,(0,0)) ∧
    TagsG (fun b=>ok b∧b < w.heap.size) (w.heap.size+2) w' (.map q) u∧(u.map (·.1)).Nodup∧(Rdr RT (fun b=>ok b∧b < w.heap.size) w' rb s∧NN w' rb s)∧Upd (fun b=>b=rb) w w'∧rdTagsN n u s=rdTags st)
   (fun ρ _=>(RowKit.intOf (ρ 4)).toNat) ?_ ?_) ?_
 ·refine ⟨(rdUv st).1,[],(rdUv st).2,none,hlt,?_,?_,?_,?_,hbb3,hbb2,TagsG.start _ _ _,by simp,⟨h2,hn2⟩,hU2,rfl⟩<;>simp (maxSteps:=1000000)(disch:=(first|omega|(simp only [qI,qJ,qK]<;>omega)|exact qL _)) only [go_sem,↓reduceIte,n0,reduceCtorEq,n1,n2,n3,n4,n5,i0,i1,i2,i3,i4,i5,i6,i7]
  all_goals rfl
 ·rintro ρ w4 ⟨n,u,s,q,hn,h0',h2',h3',h4',hb3',hb2',hG,hnd,⟨hR,hN⟩,hU,hT⟩
  have hz4:=hU.size
  by_cases hn0:n=0
  ·subst hn0
   have hc:¬ (0:Int) < ((0:Nat):Int):=by omega
   repeat ((first|refine qA rfl ?_|apply qB|refine qC rfl ?_|apply qD|apply qE|apply qF|apply qG|apply qH);try simp (maxSteps:=1000000)(disch:=(first|omega|(simp only [qI,qJ,qK]<;>omega)|exact qL _)) only [go_sem,↓reduceIte,n0,reduceCtorEq,n1,n2,n3,n4,n5,i0,i1,i2,i3,i4,i5,i6,i7,h4'])
   have hT':(u,s)=rdTags st:=hT
   rw [← hT']
   exact ⟨q,h2',h3',hb3',hb2',hG,hnd,⟨hR,hN⟩,hU⟩
  ·have hlt3:=blk_lt hb3'
   have hlt2:=blk_lt hb2'
   repeat ((first|refine qA rfl ?_|apply qB|refine qC rfl ?_|apply qD|apply qE|apply qF|apply qG|apply qH);try simp (maxSteps:=1000000)(disch:=(first|omega|(simp only [qI,qJ,qK]<;>omega)|exact qL _)) only [go_sem,↓reduceIte,n0,reduceCtorEq,n1,n2,n3,n4,n5,i0,i1,i2,i3,i4,i5,i6,i7,h0',h4'])
   refine (RUvarint_fn w4 hR hr).mono ?_
   rintro _ w5 ⟨rfl,⟨h5,hn5⟩,hu5⟩
   repeat ((first|refine qA rfl ?_|apply qB|refine qC rfl ?_|apply qD|apply qE|apply qF|apply qG|apply qH);try simp (maxSteps:=1000000)(disch:=(first|omega|(simp only [qI,qJ,qK]<;>omega)|exact qL _)) only [go_sem,↓reduceIte,n0,reduceCtorEq,n1,n2,n3,n4,n5,i0,i1,i2,i3,i4,i5,i6,i7,h0'])
   refine (RUvarint_fn w5 h5 hr).mono ?_
   rintro _ w6 ⟨rfl,⟨h6,hn6⟩,hu6⟩
   have e64:=rdUv_64 (rdUv s).2
   repeat ((first|refine qA rfl ?_|apply qB|refine qC rfl ?_|apply qD|apply qE|apply qF|apply qG|apply qH);try simp (maxSteps:=1000000)(disch:=(first|omega|(simp only [qI,qJ,qK]<;>omega)|exact qL _)) only [go_sem,↓reduceIte,n0,reduceCtorEq,n1,n2,n3,n4,n5,i0,i1,i2,i3,i4,i5,i6,i7,h0',e64])
   refine (Span_fn w6 h6 hr _).mono ?_
   rintro r7 w7 ⟨hB7,_,_,h7,hn7,hu7⟩
   obtain ⟨a7,c7,rfl,hc7⟩:=hB7.shape
   have hu47:Upd (fun b=>b=rb) w4 w7:=(hu5.trans hu6).trans hu7
   have hz7:=hu47.size
   have hb7:=hu47.blk_some hb3' (by omega)
   have hb72:=hu47.blk_some hb2' (by omega)
   have hG7:=hG.keep (w':=w7) fun b hb hk=>hu47.keep b hb fun e=>by
    rcases hk with hk|hk
    ·exact hr (e ▸ hk.1)
    ·omega
   have hlv:=rdUv_lt s
   repeat ((first|refine qA rfl ?_|apply qB|refine qC rfl ?_|apply qD|apply qE|apply qF|apply qG|apply qH);try simp (maxSteps:=1000000)(disch:=(first|omega|(simp only [qI,qJ,qK]<;>omega)|exact qL _)) only [go_sem,↓reduceIte,n0,reduceCtorEq,n1,n2,n3,n4,n5,i0,i1,i2,i3,i4,i5,i6,i7,h3'])
   have hm:(#[.map q]:Array Value)[0]? = some (.map q):=rfl
   rw [h3']
   refine (TagsPut_fn (okT:=fun b=>ok b∧b < w.heap.size) (L:=w.heap.size+2) w7 hG7 (by omega) (by omega) hb7 hm (thaw_00 _ _) ((rdUv s).1,(rdSpan (rdUv (rdUv s).2).1 (rdUv (rdUv s).2).2).1) _ (hB7.weaken fun b _ hk=>⟨hk,by have:=hk.2;omega⟩) hlv hnd (fun b hk e=>by have:=hk.2;omega)).mono ?_
   rintro _ w8 ⟨m',hb8,hG8,hU8⟩
   have hmap:∀ b,Value.map q = .map (some b)→w.heap.size+2≤b:=fun b hb=>by
    cases hb
    exact (hG7.lt rfl).2
   have hb82:=hU8.blk_some hb72 (by rintro (h|h)<;>first|omega|(have:=hmap _ h;omega))
   have hrb8:¬ (rb=w.heap.size+1∨Value.map q = .map (some rb)):=by rintro (h|h)<;>first|omega|(have:=hmap _ h;omega)
   have hw1:IntKind.u32.wrap ((n:Int) - 1)=((n - 1:Nat):Int):=by rw [u32_wrap (by omega)];omega
   repeat ((first|refine qA rfl ?_|apply qB|refine qC rfl ?_|apply qD|apply qE|apply qF|apply qG|apply qH);try simp (maxSteps:=1000000)(disch:=(first|omega|(simp only [qI,qJ,qK]<;>omega)|exact qL _)) only [go_sem,↓reduceIte,n0,reduceCtorEq,n1,n2,n3,n4,n5,i0,i1,i2,i3,i4,i5,i6,i7,h4',hw1])
   obtain ⟨k,rfl⟩:∃ k,n=k+1:=⟨n - 1,by omega⟩
   rw [rdTagsN] at hT
   refine ⟨⟨k,_,_,m',by omega,h0',h2',h3',rfl,hb8,hb82,hG8,tagPut_keys _ _ hnd,⟨h7.upd hU8 hrb8 (fun b _ hk e => ?_),(hn7 (.inl hn6)).upd hU8 hrb8⟩,?_,hT⟩,?_⟩
   ·rcases e with e|e
    ·have:=hk.2;omega
    ·have:=hmap _ e;have:=hk.2;omega
   ·exact (hU.trans hu47).trans' hU8 fun i hi e=>by
     rcases e with e|e
     ·omega
     ·have:=hmap _ e;omega
   ·simp only [RowKit.intOf];omega
 ·rintro ρ w4 ⟨q,h2',h3',hb3',hb2',hG,hnd,⟨hR,hN⟩,hU⟩
  have hz4:=hU.size
  have hlt3:=blk_lt hb3'
  have hlt2:=blk_lt hb2'
  have hc1:cellsAt #[.map q] 0 1=some (.agg #[.map q]):=rfl
  repeat ((first|refine qA rfl ?_|apply qB|refine qC rfl ?_|apply qD|apply qE|apply qF|apply qG|apply qH);try simp (maxSteps:=1000000)(disch:=(first|omega|(simp only [qI,qJ,qK]<;>omega)|exact qL _)) only [go_sem,↓reduceIte,n0,reduceCtorEq,n1,n2,n3,n4,n5,i0,i1,i2,i3,i4,i5,i6,i7,h2',h3',hb3',hb2',hc1])
  have hE:Upd (fun b=>b=w.heap.size) w4 (wr w4 w.heap.size 0 [.map q]):=(Upd.refl _ _).wr _ _ (.inr rfl)
  refine ⟨q,rfl,?_,hnd,⟨(hR.upd hE (by omega) (fun b _ hk e=>by have:=hk.2;omega)).weaken fun b _ hk=>hk.1,hN.upd hE (by omega)⟩,hU.trans' hE fun i hi e=>by omega⟩
  exact ((hG.tags (ok':=fun b=>(ok b∧b < w.heap.size)∨w.heap.size+2≤b) (fun b _ hk=>.inl hk) (fun b hb=>.inr hb)).keep (hE.keeps fun b _ hk e=>by
   rcases hk with hk|hk
   ·have:=hk.2;omega
   ·omega)).weaken fun b _ hk=>hk.elim (fun h=>.inl h.1) (fun h=>.inr (by omega))
def Glo (ev:Value) (w:World):Prop:=GloBE w∧GloErr w ev
theorem Glo.lt {ev:Value} {w:World} (h:Glo ev w):0 < w.heap.size∧1 < w.heap.size:=by
 obtain ⟨⟨x,hx⟩,y,hy,_⟩:=h
 exact ⟨blk_lt hx,blk_lt hy⟩
theorem Glo.updS {ev:Value} {w w':World} {S:Nat→Prop} (h:Glo ev w) (u:Upd S w w') (h1:¬ S 0) (h2:¬ S 1):Glo ev w':=by
 obtain ⟨⟨x,hx⟩,y,hy,he⟩:=h
 exact ⟨⟨x,u.blk_some hx h1⟩,y,u.blk_some hy h2,he⟩
end Ms

namespace Ms
open Go

structure LstI (T:TypeId) (r:St→Tree × St) (rel:Rel Tree) (size:Nat) (E:TypeId) (zc:List Value) (L N:Nat) (ok okE:Blocks) (rb:Nat) (wa:World) (sA:St) (va:Value) (j:Nat) (s:St) (xs:List Tree) (css:List (List Value)) (w:World):Prop where
 le:j≤N
 row:RowJ size E zc L N j va css w
 all:All2 (rel (fun b=>okE b∧¬ ownB va b) w) xs css
 rd:Rdr T ok w rb s∧NN w rb s
 upd:Upd (fun b=>b=rb) wa w
 eq:rdMany r N sA=(xs++(rdMany r (N - j) s).1,(rdMany r (N - j) s).2)
section
variable {T : TypeId} {r:St→Tree × St} {rel:Rel Tree} {size:Nat} {E:TypeId} {zc:List Value} {L N:Nat} {ok okE:Blocks} {rb:Nat} {wa:World} {sA:St} {va:Value} {j:Nat} {s:St} {xs:List Tree} {css:List (List Value)} {w w':World}
theorem LstI.start (h:RowJ size E zc L N 0 va [] w) (hr:Rdr T ok w rb sA∧NN w rb sA) (hu:Upd (fun b=>b=rb) wa w):LstI T r rel size E zc L N ok okE rb wa sA va 0 sA [] [] w :=
 ⟨Nat.zero_le _,h,⟨rfl,fun i h=>by simp at h⟩,hr,hu,by simp⟩
theorem RowJ.own (h:RowJ size E zc L N j va css w) {b:Nat} (hb:ownB va b):L≤b∧b < w.heap.size:=by
 obtain ⟨a,n,c,he,rfl⟩:=hb
 rcases h.row with ⟨_,a',h1,h2⟩|⟨_,R,q,rest,h1,_,hL,hbk⟩
 ·rw [he] at h1;cases h1;exact h2 _ rfl
 ·rw [he] at h1;cases h1;exact ⟨hL,blk_lt hbk⟩
theorem LstI.step (hR:Lay rel size) (h:LstI T r rel size E zc L N ok okE rb wa sA va j s xs css w) (hj:j < N) {c:List Value} (row:RowJ size E zc L N (j+1) va (css++[c]) w') (hx:rel (fun b=>okE b∧¬ ownB va b) w' (r s).1 c)
  (u:Upd (fun b=>ownB va b∨b=rb) w w') (rd:Rdr T ok w' rb (r s).2∧NN w' rb (r s).2) (hok:¬ okE rb) (hL:wa.heap.size≤L):LstI T r rel size E zc L N ok okE rb wa sA va (j+1) (r s).2 (xs++[(r s).1]) (css++[c]) w':=by
 refine ⟨hj,row,(h.all.imp fun x y hxy=>hR.keep hxy (u.keeps fun b _ hk e => ?_)).snoc hx,rd,?_,rdMany_step h.eq hj⟩
 ·rcases e with e|e
  ·exact hk.2 e
  ·exact hok (e ▸ hk.1)
 ·refine h.upd.trans' u fun i hi e => ?_
  rcases e with e|e
  ·have:=(h.row.own e).1;omega
  ·exact e
theorem LstI.done (h:LstI T r rel size E zc L N ok okE rb wa sA va N s xs css w):rdMany r N sA=(xs,s):=by
 have:=h.eq
 rw [Nat.sub_self] at this
 simpa [rdMany] using this
theorem LstI.bad (h:LstI T r rel size E zc L N ok okE rb wa sA va j s xs css w) (hj:j < N) (hn:(r none).2=none) (hb:(r s).2=none):(rdMany r N sA).2=none:=by
 rw [rdMany_step h.eq hj,hb]
 exact rdMany_none hn _
end
theorem rdP_bad {d:Nat} {v:Int} {flex:Bool} {fs:List Fld} {s:St} (h:(rdL (rdP d v flex) (dfP d) v flex fs s).2=none):(rdP (d+1) v flex fs s).2=none:=by
 rw [rdP]
 split
 ·rw [h];exact rdTags_none
 ·exact h
theorem rdL_bad {d:Nat} {v:Int} {flex:Bool} {f:Fld} {fs:List Fld} {s:St} (h:(rdF (rdP d v flex) v flex f s).2=none):(rdL (rdP d v flex) (dfP d) v flex fs (rdF (rdP d v flex) v flex f s).2).2=none:=by
 rw [h];exact rdL_none (rdP_none v flex d) v flex fs
theorem rdF_listbad {d:Nat} {v:Int} {flex:Bool} {f:Fld} {s:St} (hk:f.kind=11) (h:(rdMany (rd1 (rdP d v flex) f.of f.sub false flex) (rdALen flex s).1.toNat (rdALen flex s).2).2=none):(rdF (rdP d v flex) v flex f s).2=none:=by
 unfold rdF
 rw [if_pos hk]
 exact h
theorem rd1P_none {d:Nat} {v:Int} {flex:Bool} {k:Int} {sub:List Fld}:(rd1 (rdP d v flex) k sub false flex none).2=none:=rd1_none (rdP_none v flex d) _ _ _ _
theorem rdALen_rng (flex:Bool) (st:St) : -2147483648≤(rdALen flex st).1∧(rdALen flex st).1 < 2147483648:=by
 have key:∀ n:Int,-2147483648≤IntKind.i32.wrap n∧IntKind.i32.wrap n < 2147483648:=fun n=>by
  unfold IntKind.wrap;simp [IntKind.bits,IntKind.signed];split<;>omega
 have h2 : -2147483648≤(rdCnt flex st).1∧(rdCnt flex st).1 < 2147483648:=by
  cases flex
  ·rw [rdCnt_f];unfold rdInt;exact key _
  ·rw [rdCnt_t];exact key _
 unfold rdALen
 split
 ·exact ⟨by decide,by decide⟩
 ·exact h2
theorem rdF_listE {pt:List Fld→St→Tree × St} {v:Int} {flex:Bool} {f:Fld} {s e:St} {xs:List Tree} (hk:f.kind=11) (h:rdMany (rd1 pt f.of f.sub false flex) (rdALen flex s).1.toNat (rdALen flex s).2=(xs,e)):rdF pt v flex f s=(.mk 0 [] (nilS f v (rdALen flex s).1) xs [],e):=by
 unfold rdF
 rw [if_pos hk]
 unfold rdList
 rw [h]
def Holds : List (Nat × Value)→Regs→Prop
 | [],_=>True
 | p :: l,ρ=>ρ p.1=p.2∧Holds l ρ
theorem Holds_nil (ρ:Regs):Holds [] ρ=True:=nr rfl
theorem Holds_cons (r:Nat) (v:Value) (l:List (Nat × Value)) (ρ:Regs):Holds ((r,v) :: l) ρ=(ρ r=v∧Holds l ρ):=nr rfl
def RowQ (l:List (Nat × Value)) (ra:Nat) (I:Value→World→Prop) (ρ:Regs) (w:World):Prop:=Holds l ρ∧∃ v,ρ ra=v∧I v w
def LoopQ (l:List (Nat × Value)) (ri:Nat) (I:Nat→World→Prop) (ρ:Regs) (w:World):Prop:=Holds l ρ∧∃ j:Nat,ρ ri = .int .i32 j∧I j w
def EndQ (l:List (Nat × Value)) (I:World→Prop) (ρ:Regs) (w:World):Prop:=Holds l ρ∧I w
theorem slBase_00 (a:Option Addr) (s:Nat):slBase a 0 0 s=a:=by
 unfold slBase
 rw [if_pos rfl]
theorem RowJ.zero {size:Nat} {E:TypeId} {zc:List Value} {L N:Nat} {w:World} {a:Option Addr} (h0:N=0) (h:∀ x,a=some x→L≤x.block∧x.block < w.heap.size):RowJ size E zc L N 0 (.slice a 0 0) [] w:=⟨rfl,by simp [Css],.inl ⟨h0,_,rfl,h⟩⟩
theorem isSome_some {s:St} (h:¬ s=none):s.isSome=true:=by
 cases s with
 | none=>exact absurd rfl h
 | some x=>rfl
theorem errV_none {s:St} {ev:Value} (h:s=none):errV ev s=ev:=by subst h;rfl

def wrapN (k n:Int):Int:=if k=1 then IntKind.i8.wrap n else if k=2 then IntKind.i16.wrap n else if k=3 then IntKind.i32.wrap n else if k=5 then IntKind.u16.wrap n else n
def sortT (u:List TagD):List TagD:=u.mergeSort fun a b=>decide (a.1≤b.1)
def tl1 (tp:List Fld→Tree→Tree) (k:Int) (sub:List Fld) (x:Tree):Tree :=
 if k=0 then .num (if x.n % 2=1 then 1 else 0)
 else if k=7 then .oct false (uuidS x.s)
 else if k=8 then .oct false x.s
 else if k=9 then .oct x.null (if x.null=true then [] else x.s)
 else if k=10 then tp sub x
 else .num (wrapN k x.n)
def tlF (tp:List Fld→Tree→Tree) (f:Fld) (x:Tree):Tree :=
 if f.kind=8∧0≤f.null then .oct x.null (if x.null=true then [] else x.s)
 else if f.kind=11 then .mk 0 [] x.null ((if x.null=true then [] else x.l).map (tl1 tp f.of f.sub)) []
 else tl1 tp f.kind f.sub x
def tlL (tp:List Fld→Tree→Tree) (t:Tree):List Fld→Nat→List Tree
 | [],_=>[]
 | f :: fs,i=>tlF tp f (t.at i) :: tlL tp t fs (i+1)
def tlP : Nat→List Fld→Tree→Tree
 | 0,_,_=>.zero
 | d+1,fs,t=>.mk 0 [] false (tlL (tlP d) t fs 0) (sortT t.u)

def Good1 (G:List Fld→Tree→Prop) (k:Int) (sub:List Fld) (x:Tree):Prop:=(k=4→IntKind.i64.wrap x.n=x.n)∧x.s.length≤32767∧(k=10→G sub x)
def GoodF (G:List Fld→Tree→Prop) (f:Fld) (x:Tree):Prop:=if f.kind=11 then x.l.length≤32767∧∀ y∈x.l,Good1 G f.of f.sub y else Good1 G f.kind f.sub x
def GoodL (G:List Fld→Tree→Prop) (t:Tree):List Fld→Nat→Prop
 | [],_=>True
 | f :: fs,i=>GoodF G f (t.at i)∧GoodL G t fs (i+1)
def GoodU (u:List TagD):Prop:=u.length≤32767∧(u.map (·.1)).Nodup∧∀ y∈u,y.2.length≤32767
def GoodP : Nat→List Fld→Tree→Prop
 | 0,_,_=>True
 | d+1,fs,t=>GoodL (GoodP d) t fs 0∧GoodU t.u
theorem GoodF.one {G:List Fld→Tree→Prop} {f:Fld} {x:Tree} (h:GoodF G f x) (hk:f.kind≠11):Good1 G f.kind f.sub x:=by unfold GoodF at h;rw [if_neg hk] at h;exact h
theorem GoodF.list {G:List Fld→Tree→Prop} {f:Fld} {x:Tree} (h:GoodF G f x) (hk:f.kind=11):x.l.length≤32767∧∀ y∈x.l,Good1 G f.of f.sub y:=by unfold GoodF at h;rw [if_pos hk] at h;exact h
theorem GoodF.listL {G:List Fld→Tree→Prop} {f:Fld} {x:Tree} (h:GoodF G f x) (hk:f.kind=11) {L:List Tree} (hL:L=if x.null=true then [] else x.l):L.length≤32767∧∀ y∈L,Good1 G f.of f.sub y:=by
 subst hL
 split
 ·exact ⟨by simp,fun y hy=>by cases hy⟩
 ·exact h.list hk
theorem RepF_listT {R:List Fld→Rel Tree} {S:List Fld→Nat} {f:Fld} {ok:Blocks} {w:World} {t:Tree} {c:List Value} (h:f.kind=11) (hr:RepF R S f ok w t c) :
  ∃ a k L,c=[.slice a L.length k]∧L=(if t.null=true then [] else t.l)∧a.isNone=t.null∧SlR ok w (sz1 S f.of f.sub) (Rep1 R f.of f.sub ok w) (.slice a L.length k) L:=by
 unfold RepF at hr
 rw [if_neg (by omega),if_pos h] at hr
 obtain ⟨v,rfl,hr⟩:=hr
 by_cases ht:t.null=true
 ·rw [if_pos ht] at hr
  subst hr
  exact ⟨none,0,[],rfl,by rw [if_pos ht],by rw [ht];rfl,[],⟨none,0,rfl,Nat.le_refl _,by simp,.inl rfl⟩,rfl,fun i h=>by simp at h⟩
 ·rw [if_neg ht] at hr
  obtain ⟨hs,a,n,k,rfl⟩:=hr
  obtain ⟨a',k',e,_⟩:=SlR.shape hs
  cases e
  exact ⟨_,_,t.l,rfl,by rw [if_neg ht],by cases h:t.null with|true=>exact absurd h ht|false=>rfl,hs⟩
theorem wrap_wider (k:IntKind) (hk:k = .i8∨k = .i16∨k = .i32∨k = .u16) (n:Int):IntKind.i64.wrap (k.wrap n)=k.wrap n:=by
 have : -9223372036854775808≤k.wrap n∧k.wrap n < 9223372036854775808:=by
  rcases hk with h|h|h|h<;>subst h<;>(unfold IntKind.wrap;simp [IntKind.bits,IntKind.signed])<;>(try split)<;>omega
 exact i64_wrap (by omega)
theorem tl8 (n:Int):IntKind.i64.wrap (IntKind.i8.wrap n)=IntKind.i8.wrap n:=wrap_wider _ (by simp) n
theorem tl32 (n:Int):IntKind.i64.wrap (IntKind.i32.wrap n)=IntKind.i32.wrap n:=wrap_wider _ (by simp) n
theorem bytesRow_list (s:List UInt8) (cap:Nat):bytesRow ⟨s.toArray⟩ cap=(s.map byteV++List.replicate (cap - s.length) (Value.int .u8 0)).toArray:=by
 apply Array.ext'
 simp [bytesRow,ByteArray.size]
 exact fun _ _=>rfl
section
variable {P : Program}
theorem wp_octets {S T E:TypeId} (hs:P.underlying S=some .string) (hd:P.underlying T=some (.slice E)) (he:P.underlying E=some (.int .u8)) {s:List UInt8}
  {w:World} {ρ:Regs} {d:Option Nat} {x:Operand} {type:TypeId} {pos:String} {after:Array Edge} {guard:Option (Nat × Bool)} {K:Regs→World→Prop}
  (hx:ev ρ x=strV s) (hk:∀ a k w',BytesV (fun b=>w.heap.size≤b) w' (.slice (some a) s.length k) s→Ext w w'→K (put ρ d (.slice (some a) s.length k)) w') :
  rawK P { dst:=d,op:=.convert S T x,type:=type,pos:=pos,after:=after,guard:=guard } ρ w K:=by
 refine ⟨?_⟩
 have hr:=run_bytes_of_string w S T E ⟨s.toArray⟩ hs hd he
 have hsz:(⟨s.toArray⟩:ByteArray).size=s.length:=by simp [ByteArray.size]
 rw [hsz,bytesRow_list] at hr
 have hcap:s.length≤grownCap w s.length 0 E:=by unfold grownCap;simp only [Question.cut];omega
 generalize grownCap w s.length 0 E=cap at *
 have:(execOp (ev ρ) { dst:=d,op:=.convert S T x,type:=type,pos:=pos,after:=after,guard:=guard }).run P w = .ok (.value (.slice (some ⟨w.heap.size,0,none⟩) s.length cap)) (w.drew.alloc (.cells (s.map byteV++List.replicate (cap - s.length) (Value.int .u8 0)).toArray E ((s.map byteV++List.replicate (cap - s.length) (Value.int .u8 0)).toArray.size,(s.map byteV++List.replicate (cap - s.length) (Value.int .u8 0)).toArray.size+1))):=by
  have hr':(convert S T (strV s)).run P w=_:=hr
  simp only [execOp,hx,Sem.run_bind,hr',Result.andThen_ok,Sem.run_pure]
 rw [this]
 refine hk _ _ _ ?_ ((Upd.refl _ _).drew.alloc _)
 refine ⟨_,cap,by rw [List.length_map],by rw [List.length_map];exact hcap,fun cs hm => ?_,.inr ⟨_,rfl,rfl,Nat.le_refl _,_,blk_alloc_new rfl,fun i hi => ?_⟩⟩
 ·obtain ⟨b,_,rfl⟩:=List.mem_map.1 hm;rfl
 ·rw [bytes_flat] at hi ⊢
  simp only [Nat.zero_add,List.getElem?_toArray]
  exact List.getElem?_append_left hi
end
theorem bytes_at {w:World} {b o:Nat} {x:Blk} {n:Nat} {s:List UInt8} (hb:blk w b=some x) (hl:s.length=n) (h:∀ i,i < n→x.1[o+i]? = (s.map byteV)[i]?):BytesV AnyB w (.slice (some ⟨b,o,none⟩) n n) s:=by
 subst hl
 refine ⟨_,s.length,by rw [List.length_map],by rw [List.length_map];exact Nat.le_refl _,fun cs hm => ?_,.inr ⟨_,rfl,rfl,trivial,x,hb,fun i hi => ?_⟩⟩
 ·obtain ⟨b,_,rfl⟩:=List.mem_map.1 hm;rfl
 ·rw [bytes_flat] at hi ⊢
  exact h i (by simpa using hi)
theorem Own.setlast {B:Nat} {w:World} {E:TypeId} {size:Nat} {g:Nat} {n q:Nat} {xs z cs:List Value} (h:Own B w E size (.slice (some ⟨g,0,none⟩) (n+1) q) (n+1) (xs++z)) (hz:z.length=size) (hc:cs.length=size):Own B (wr w g (n * size) cs) E size (.slice (some ⟨g,0,none⟩) (n+1) q) (n+1) (xs++cs):=by
 obtain ⟨h1,h2⟩:=h
 have hl:xs.length=n * size:=by
  simp only [List.length_append,hz,Nat.succ_mul] at h1;omega
 refine ⟨by simp only [List.length_append,hc,hl,Nat.succ_mul],?_⟩
 rcases h2 with ⟨h,_⟩|⟨g',cap,rest,fr,h3,h4,h5,h6,h7,h8⟩
 ·cases h
 ·cases h3
  refine .inr ⟨g,_,rest,fr,rfl,h4,?_,by simp only [List.length_append,hc,hz] at h6 ⊢;exact h6,h7,h8⟩
  rw [List.append_assoc] at h5 ⊢
  have:=el_blk0 (vs:=cs) h5 hl (by omega)
  rw [this]
  congr 2
  have e1:=el_sets (A:=[]) (B:=[]) cs z 0 (by omega)
  simp only [List.nil_append,List.append_nil,List.length_nil,Nat.zero_add] at e1
  have e2:=wrArr_full (c:=z.toArray) (vs:=cs) (by rw [List.size_toArray];omega)
  have e3:setL z 0 cs=cs:=congrArg Array.toList (e1.symm.trans e2)
  rw [e3]
theorem sortT_perm (u:List TagD):(sortT u).Perm u:=List.mergeSort_perm _ _
theorem sortT_le (u:List TagD):(sortT u).Pairwise fun a b=>a.1≤b.1:=by
 have:=List.pairwise_mergeSort (le:=fun a b:TagD=>decide (a.1≤b.1)) (fun a b c h1 h2=>by simp at h1 h2 ⊢;omega) (fun a b=>by simp;omega) u
 exact this.imp fun h=>by simpa using h
theorem sortT_lt {u:List TagD} (h:(u.map (·.1)).Nodup):((sortT u).map (·.1)).Pairwise (· < ·):=by
 have h1:((sortT u).map (·.1)).Nodup:=((sortT_perm u).map _).nodup_iff.2 h
 have h2:((sortT u).map (·.1)).Pairwise (·≤·):=List.pairwise_map.2 (sortT_le u)
 have h3:=List.nodup_iff_pairwise_ne.1 h1
 exact (h2.and h3).imp fun h=>by omega
theorem wr_comm {w:World} {a b o p:Nat} {vs us:List Value} (h:a≠b):wr (wr w a o vs) b p us=wr (wr w b p us) a o vs:=by
 simp only [wr]
 congr 1
 apply Array.ext_getElem?
 intro i
 simp only [Array.getElem?_modify]
 by_cases h1:b=i
 ·have h2:¬ a=i:=by omega
  simp [h1,h2]
 ·simp [h1]
def LoopL (l:List (Nat × Value)) (ri:Nat) (I:Nat→World→Prop) (ρ:Regs) (w:World):Prop:=Holds l ρ∧∃ j:Nat,ρ ri = .int .i64 j∧I j w
def TreeRg (ok:Blocks) (w:World) (w':World) (r:Value) (t:Tree):Prop:=∃ cs,r = .agg cs.toArray∧TreeC (okN ok w.heap.size) w' t cs
theorem treesN (ok:Blocks) (w:World):TreesV ok w (.slice none 0 0) []:=⟨[],⟨none,0,rfl,Nat.le_refl _,by simp,.inl rfl⟩,rfl,fun i h=>by simp at h⟩
theorem tagsN (ok:Blocks) (w:World):TagsV ok w (.slice none 0 0) []:=⟨[],⟨none,0,rfl,Nat.le_refl _,by simp,.inl rfl⟩,rfl,fun i h=>by simp at h⟩
theorem W.seqO {P:Program} {n id:Nat} {ops:Array Oper} {y:Code} {Q:Exit→Regs→World→Prop} {ρ:Regs} {w:World} (k:Nat) (hf:fitsL n ops.toList=true)
  (h:∀ O DD,O=ops→DD=ops.toList.drop k→WPsq P O (ops.toList.take k++DD) (fun ρ w=>W P n y Q ρ w) ρ w):W P n (.seq (.region id ops false) y) Q ρ w:=by
 have:=h ops _ rfl rfl
 rw [List.take_append_drop] at this
 exact W.seqR hf this

section
variable {P : List Fld→Tree→Prop} {V:Int} {f:Fld} {t:Tree}
theorem FitWF.listL (h:FitWF P V f t) (hk:f.kind=11) {L:List Tree} (hL:L=if nullS f V t=true then [] else t.l):L.length≤32767∧∀ x∈L,Fit1 P f.of f.sub x:=by
 subst hL
 split
 ·exact ⟨by simp,fun x hx=>by cases hx⟩
 ·exact h.list hk
variable {pt : List Fld→Int→Bool→Tree→List UInt8} {flex:Bool}
end
end Ms

namespace Ms
open Go.World renaming size_alloc → qI
open Ms renaming size_wr → qJ,size_drew → qK,not_noB → qL
open W renaming seqR → qA,seq → qB,regR → qC,condK → qD,block → qE,skip → qF,ret → qG,exit → qH
open Nat renaming reduceEqDiff → n0,reduceAdd → n1,reduceMul → n2,reduceSub → n3,reduceLT → n4,reduceLeDiff → n5
open Int renaming reduceEq → i0,reduceLT → i1,reduceLE → i2,reduceNeg → i3,reduceAdd → i4,reduceSub → i5,reduceMul → i6,reduceToNat → i7
set_option maxRecDepth 4000
open Go Go.Proofs Go.Shelf
attribute [local congr] W_congr WPsq_congr WPp_congr optK_congr addrK_congr intK_congr boolK_congr sliceK_congr tupleK_congr funcK_congr Fn_congr rawK_congr takeK_congr stepK_congr convK_congr aggK_congr

theorem sorted_fn {ok:Blocks} (v:Value) (u:List TagD) (w:World) (h:TagsV ok w v u) (hs:(u.map (·.1)).Pairwise (· < ·)) (hl:u.length≤32767):Fn Tryd.prog 22 #[v] w fun _ w'=>Ext w w':=by
 obtain ⟨a,c,rfl,_⟩:=SlR.shape h
 refine fn_of_W Tryd.func22 rfl Tryd.results22 Tryd.ntmps22 rfl ?_
 repeat ((first|refine qA rfl ?_|apply qB|refine qC rfl ?_|apply qD|apply qE|apply qF|apply qG|apply qH);try simp (disch:=(first|omega|(simp only [qI,qJ,qK]<;>omega)|exact qL _)) only [go_sem,↓reduceIte,n0,reduceCtorEq,n1,n2,n3,n4,n5,i0,i1,i2,i3,i4,i5,i6,i7])
 refine W.exitJ 0 (EndQ [] (fun w'=>Ext w w'))
  (W.loop (LoopL [(5,.int .i64 u.length),(0,.slice a u.length c)] 6 (fun j w'=>j≤u.length∧Ext w w')) (fun ρ _=>u.length - (RowKit.intOf (ρ 6)).toNat) ?_ ?_) ?_
 ·exact ⟨(by simp (disch:=(first|omega|(simp only [qI,qJ,qK]<;>omega)|exact qL _)) only [go_sem,↓reduceIte,n0,reduceCtorEq,n1,n2,n3,n4,n5,i0,i1,i2,i3,i4,i5,i6,i7,Holds_nil,Holds_cons]),0,(by simp (disch:=(first|omega|(simp only [qI,qJ,qK]<;>omega)|exact qL _)) only [go_sem,↓reduceIte,n0,reduceCtorEq,n1,n2,n3,n4,n5,i0,i1,i2,i3,i4,i5,i6,i7];all_goals rfl),Nat.zero_le _,Upd.refl _ _⟩
 ·rintro ρ w1 ⟨⟨h5,h0,-⟩,j,h6,hj,hE⟩
  by_cases hlt:j < u.length
  ·repeat ((first|refine qA rfl ?_|apply qB|refine qC rfl ?_|apply qD|apply qE|apply qF|apply qG|apply qH);try simp (disch:=(first|omega|(simp only [qI,qJ,qK]<;>omega)|exact qL _)) only [go_sem,↓reduceIte,n0,reduceCtorEq,n1,n2,n3,n4,n5,i0,i1,i2,i3,i4,i5,i6,i7,h6,h5,h0])
   refine W.exitJ 2 (EndQ [(6,.int .i64 j),(5,.int .i64 u.length),(0,.slice a u.length c)] (fun w'=>Ext w w')) (W.loop (EndQ [(3,.int .i64 j),(6,.int .i64 j),(5,.int .i64 u.length),(0,.slice a u.length c)] (fun w'=>Ext w w')) (fun _ _=>0) ?_ ?_) ?_
   ·exact ⟨(by simp (disch:=(first|omega|(simp only [qI,qJ,qK]<;>omega)|exact qL _)) only [go_sem,↓reduceIte,n0,reduceCtorEq,n1,n2,n3,n4,n5,i0,i1,i2,i3,i4,i5,i6,i7,Holds_nil,Holds_cons,h6,h5,h0]),hE⟩
   ·rintro ρ w2 ⟨⟨h3,h6,h5,h0,-⟩,hE2⟩
    by_cases hz:j=0
    ·subst hz
     have hc:¬ (0:Int) < ((0:Nat):Int):=by omega
     repeat ((first|refine qA rfl ?_|apply qB|refine qC rfl ?_|apply qD|apply qE|apply qF|apply qG|apply qH);try simp (disch:=(first|omega|(simp only [qI,qJ,qK]<;>omega)|exact qL _)) only [go_sem,↓reduceIte,n0,reduceCtorEq,n1,n2,n3,n4,n5,i0,i1,i2,i3,i4,i5,i6,i7])
     refine W.drawR (.take 0 (.take 1 (.take 2 (.take 3 (.take 4 (.take 5 (.take 6 (.take 7 (.take 8 (.take 9 (.take 10 (.take 11 (.take 12 (.take 13 (.take 14 (.take 15 .done)))))))))))))))) NoB mixed (by kernel_rfl) ?_
     simp (disch:=(first|omega|(simp only [qI,qJ,qK]<;>omega)|exact qL _)) only [go_sem,↓reduceIte,n0,reduceCtorEq,n1,n2,n3,n4,n5,i0,i1,i2,i3,i4,i5,i6,i7,h3,h0,hc]
     repeat ((first|refine qA rfl ?_|apply qB|refine qC rfl ?_|apply qD|apply qE|apply qF|apply qG|apply qH);try simp (disch:=(first|omega|(simp only [qI,qJ,qK]<;>omega)|exact qL _)) only [go_sem,↓reduceIte,n0,reduceCtorEq,n1,n2,n3,n4,n5,i0,i1,i2,i3,i4,i5,i6,i7,h3,h0,hc])
     exact ⟨(by simp (disch:=(first|omega|(simp only [qI,qJ,qK]<;>omega)|exact qL _)) only [go_sem,↓reduceIte,n0,reduceCtorEq,n1,n2,n3,n4,n5,i0,i1,i2,i3,i4,i5,i6,i7,Holds_nil,Holds_cons,h6,h5,h0]),hE2.drew⟩
    ·have hU:=h.keep (hE2.keeps _)
     obtain ⟨_,b,o,x,vv,hb,_,hx,_,hxs,_,q0,q1,_,_,h32⟩:=TagsV.get hU hlt
     obtain ⟨_,b',o',x',vv',hb',_,hx',_,hxs',_,q0',q1',_,_,h32'⟩:=TagsV.get hU (i:=j - 1) (by omega)
     subst hb
     cases hb'
     rw [hx] at hx';cases hx'
     have hle:u[j - 1].1 < u[j].1:=by
      have:=List.pairwise_iff_getElem.1 hs (j - 1) j (by simp;omega) (by simpa using hlt) (by omega)
      simpa using this
     generalize u[j].1=ka at *
     generalize u[j - 1].1=kb at *
     have hc:(0:Int) < (j:Int):=by omega
     have he:(j:Int) - 1=((j - 1:Nat):Int):=by omega
     have hd:¬ (ka:Int) < (kb:Int):=by omega
     repeat ((first|refine qA rfl ?_|apply qB|refine qC rfl ?_|apply qD|apply qE|apply qF|apply qG|apply qH);try simp (disch:=(first|omega|(simp only [qI,qJ,qK]<;>omega)|exact qL _)) only [go_sem,↓reduceIte,n0,reduceCtorEq,n1,n2,n3,n4,n5,i0,i1,i2,i3,i4,i5,i6,i7])
     refine W.drawR (.take 0 (.take 1 (.take 2 (.take 3 (.take 4 (.take 5 (.take 6 (.take 7 (.take 8 (.take 9 (.take 10 (.take 11 (.take 12 (.take 13 (.take 14 (.take 15 .done)))))))))))))))) NoB mixed (by kernel_rfl) ?_
     simp (disch:=(first|omega|(simp only [qI,qJ,qK]<;>omega)|exact qL _)) only [go_sem,↓reduceIte,n0,reduceCtorEq,n1,n2,n3,n4,n5,i0,i1,i2,i3,i4,i5,i6,i7,h3,h0,hc,he,hx,q0,q0',hd,Int.toNat_natCast]
     repeat ((first|refine qA rfl ?_|apply qB|refine qC rfl ?_|apply qD|apply qE|apply qF|apply qG|apply qH);try simp (disch:=(first|omega|(simp only [qI,qJ,qK]<;>omega)|exact qL _)) only [go_sem,↓reduceIte,n0,reduceCtorEq,n1,n2,n3,n4,n5,i0,i1,i2,i3,i4,i5,i6,i7,h3,h0,hc,he,hx,q0,q0',hd,Int.toNat_natCast])
     exact ⟨(by simp (disch:=(first|omega|(simp only [qI,qJ,qK]<;>omega)|exact qL _)) only [go_sem,↓reduceIte,n0,reduceCtorEq,n1,n2,n3,n4,n5,i0,i1,i2,i3,i4,i5,i6,i7,Holds_nil,Holds_cons,h6,h5,h0]),hE2.drew⟩
   ·rintro ρ w2 ⟨⟨h6,h5,h0,-⟩,hE2⟩
    repeat ((first|refine qA rfl ?_|apply qB|refine qC rfl ?_|apply qD|apply qE|apply qF|apply qG|apply qH);try simp (disch:=(first|omega|(simp only [qI,qJ,qK]<;>omega)|exact qL _)) only [go_sem,↓reduceIte,n0,reduceCtorEq,n1,n2,n3,n4,n5,i0,i1,i2,i3,i4,i5,i6,i7,h6,h5,h0])
    refine ⟨⟨(by simp (disch:=(first|omega|(simp only [qI,qJ,qK]<;>omega)|exact qL _)) only [go_sem,↓reduceIte,n0,reduceCtorEq,n1,n2,n3,n4,n5,i0,i1,i2,i3,i4,i5,i6,i7,Holds_nil,Holds_cons,h6,h5,h0]),j+1,(by simp (disch:=(first|omega|(simp only [qI,qJ,qK]<;>omega)|exact qL _)) only [go_sem,↓reduceIte,n0,reduceCtorEq,n1,n2,n3,n4,n5,i0,i1,i2,i3,i4,i5,i6,i7,h6];all_goals rfl),by omega,hE2⟩,?_⟩
    try simp (disch:=(first|omega|(simp only [qI,qJ,qK]<;>omega)|exact qL _)) only [go_sem,↓reduceIte,n0,reduceCtorEq,n1,n2,n3,n4,n5,i0,i1,i2,i3,i4,i5,i6,i7,h6]
    simp only [RowKit.intOf]
    omega
  ·repeat ((first|refine qA rfl ?_|apply qB|refine qC rfl ?_|apply qD|apply qE|apply qF|apply qG|apply qH);try simp (disch:=(first|omega|(simp only [qI,qJ,qK]<;>omega)|exact qL _)) only [go_sem,↓reduceIte,n0,reduceCtorEq,n1,n2,n3,n4,n5,i0,i1,i2,i3,i4,i5,i6,i7,h6,h5])
   exact ⟨trivial,hE⟩
 ·rintro ρ w1 ⟨-,hE⟩
  repeat ((first|refine qA rfl ?_|apply qB|refine qC rfl ?_|apply qD|apply qE|apply qF|apply qG|apply qH);try simp (disch:=(first|omega|(simp only [qI,qJ,qK]<;>omega)|exact qL _)) only [go_sem,↓reduceIte,n0,reduceCtorEq,n1,n2,n3,n4,n5,i0,i1,i2,i3,i4,i5,i6,i7])
  exact hE

end Ms

namespace Ms
open Nat renaming reduceEqDiff → n0,reduceAdd → n1,reduceMul → n2,reduceSub → n3,reduceLT → n4,reduceLeDiff → n5
open Int renaming reduceEq → i0,reduceLT → i1,reduceLE → i2,reduceNeg → i3,reduceAdd → i4,reduceSub → i5,reduceMul → i6,reduceToNat → i7
set_option maxRecDepth 4000
open Go Go.Proofs Go.Shelf
def slRen : Ren where
 f:=fun x=>match x with
  | 6=>41
  | 10=>52
  | 11=>53
  | 12=>54
  | 13=>55
  | 14=>56
  | 24=>70
  | 25=>71
  | 26=>72
  | 27=>73
  | 28=>74
  | 29=>75
  | 30=>76
  | 31=>77
  | 32=>78
  | 33=>79
  | 34=>80
  | 35=>81
  | 36=>82
  | 37=>83
  | 38=>84
  | 39=>85
  | n=>n
 t:=fun x=>match x with
  | 20=>20
  | 26=>92
  | 35=>105
  | 0=>0
  | 37=>107
  | 3=>3
  | 41=>110
  | 44=>113
  | 49=>48
  | 51=>96
  | 4=>4
  | 54=>126
  | 53=>125
  | 58=>130
  | 5=>5
  | 9=>9
  | 60=>132
  | 64=>135
  | 66=>137
  | 67=>138
  | 17=>17
  | 32=>102
  | 33=>103
  | 82=>153
  | 12=>12
  | 75=>146
  | 76=>147
  | 77=>148
  | 78=>149
  | 79=>150
  | 80=>151
  | n=>n
 g:=fun n=>n
theorem sl6 : LaysGg.n6 Tryd.prog slRen where
 mixed:=by kernel_rfl
 f6:=by kernel_rfl
 f10:=by kernel_rfl
 f11:=by kernel_rfl
 f12:=by kernel_rfl
 f13:=by kernel_rfl
 f14:=by kernel_rfl
 f24:=by kernel_rfl
 f25:=by kernel_rfl
 f26:=by kernel_rfl
 f27:=by kernel_rfl
 f28:=by kernel_rfl
 f29:=by kernel_rfl
 f30:=by kernel_rfl
 f31:=by kernel_rfl
 f32:=by kernel_rfl
 f33:=by kernel_rfl
 f34:=by kernel_rfl
 f35:=by kernel_rfl
 f36:=by kernel_rfl
 f37:=by kernel_rfl
 f38:=by kernel_rfl
 f39:=by kernel_rfl
 t0:=Tryd.underlying0
 a0:=Tryd.isAgg0
 z0:=Tryd.sizeOf0
 v0:=Tryd.zeroValue0
 i0:=by kernel_rfl
 t3:=Tryd.underlying3
 a3:=Tryd.isAgg3
 z3:=Tryd.sizeOf3
 v3:=Tryd.zeroValue3
 i3:=by kernel_rfl
 t4:=Tryd.underlying4
 a4:=Tryd.isAgg4
 z4:=Tryd.sizeOf4
 v4:=Tryd.zeroValue4
 i4:=by kernel_rfl
 t5:=Tryd.underlying5
 a5:=Tryd.isAgg5
 z5:=Tryd.sizeOf5
 v5:=Tryd.zeroValue5
 i5:=by kernel_rfl
 t9:=Tryd.underlying9
 a9:=Tryd.isAgg9
 z9:=Tryd.sizeOf9
 v9:=Tryd.zeroValue9
 i9:=by kernel_rfl
 t12:=Tryd.underlying12
 a12:=Tryd.isAgg12
 z12:=Tryd.sizeOf12
 v12:=Tryd.zeroValue12
 i12:=by kernel_rfl
 t17:=Tryd.underlying17
 a17:=Tryd.isAgg17
 z17:=Tryd.sizeOf17
 v17:=Tryd.zeroValue17
 i17:=by kernel_rfl
 t20:=Tryd.underlying20
 a20:=Tryd.isAgg20
 z20:=Tryd.sizeOf20
 v20:=Tryd.zeroValue20
 i20:=by kernel_rfl
 t26:=Tryd.underlying92
 a26:=Tryd.isAgg92
 z26:=Tryd.sizeOf92
 v26:=Tryd.zeroValue92
 i26:=by kernel_rfl
 t32:=Tryd.underlying102
 a32:=Tryd.isAgg102
 z32:=Tryd.sizeOf102
 v32:=Tryd.zeroValue102
 i32:=by kernel_rfl
 t33:=Tryd.underlying103
 a33:=Tryd.isAgg103
 z33:=Tryd.sizeOf103
 v33:=Tryd.zeroValue103
 i33:=by kernel_rfl
 t35:=Tryd.underlying105
 a35:=Tryd.isAgg105
 z35:=Tryd.sizeOf105
 v35:=Tryd.zeroValue105
 i35:=by kernel_rfl
 t37:=Tryd.underlying107
 a37:=Tryd.isAgg107
 z37:=Tryd.sizeOf107
 v37:=Tryd.zeroValue107
 i37:=by kernel_rfl
 t41:=Tryd.underlying110
 a41:=Tryd.isAgg110
 z41:=Tryd.sizeOf110
 v41:=Tryd.zeroValue110
 i41:=by kernel_rfl
 t44:=Tryd.underlying113
 a44:=Tryd.isAgg113
 z44:=Tryd.sizeOf113
 v44:=Tryd.zeroValue113
 i44:=by kernel_rfl
 t49:=Tryd.underlying48
 a49:=Tryd.isAgg48
 z49:=Tryd.sizeOf48
 v49:=Tryd.zeroValue48
 i49:=by kernel_rfl
 t51:=Tryd.underlying96
 a51:=Tryd.isAgg96
 z51:=Tryd.sizeOf96
 v51:=Tryd.zeroValue96
 i51:=by kernel_rfl
 t53:=Tryd.underlying125
 a53:=Tryd.isAgg125
 z53:=Tryd.sizeOf125
 v53:=Tryd.zeroValue125
 i53:=by kernel_rfl
 t54:=Tryd.underlying126
 a54:=Tryd.isAgg126
 z54:=Tryd.sizeOf126
 v54:=Tryd.zeroValue126
 i54:=by kernel_rfl
 t58:=Tryd.underlying130
 a58:=Tryd.isAgg130
 z58:=Tryd.sizeOf130
 v58:=Tryd.zeroValue130
 i58:=by kernel_rfl
 t60:=Tryd.underlying132
 a60:=Tryd.isAgg132
 z60:=Tryd.sizeOf132
 v60:=Tryd.zeroValue132
 i60:=by kernel_rfl
 t64:=Tryd.underlying135
 a64:=Tryd.isAgg135
 z64:=Tryd.sizeOf135
 v64:=Tryd.zeroValue135
 i64:=by kernel_rfl
 t66:=Tryd.underlying137
 a66:=Tryd.isAgg137
 z66:=Tryd.sizeOf137
 v66:=Tryd.zeroValue137
 i66:=by kernel_rfl
 t67:=Tryd.underlying138
 a67:=Tryd.isAgg138
 z67:=Tryd.sizeOf138
 v67:=Tryd.zeroValue138
 i67:=by kernel_rfl
 t75:=Tryd.underlying146
 a75:=Tryd.isAgg146
 z75:=Tryd.sizeOf146
 v75:=Tryd.zeroValue146
 i75:=by kernel_rfl
 t76:=Tryd.underlying147
 a76:=Tryd.isAgg147
 z76:=Tryd.sizeOf147
 v76:=Tryd.zeroValue147
 i76:=by kernel_rfl
 t77:=Tryd.underlying148
 a77:=Tryd.isAgg148
 z77:=Tryd.sizeOf148
 v77:=Tryd.zeroValue148
 i77:=by kernel_rfl
 t78:=Tryd.underlying149
 a78:=Tryd.isAgg149
 z78:=Tryd.sizeOf149
 v78:=Tryd.zeroValue149
 i78:=by kernel_rfl
 t79:=Tryd.underlying150
 a79:=Tryd.isAgg150
 z79:=Tryd.sizeOf150
 v79:=Tryd.zeroValue150
 i79:=by kernel_rfl
 t80:=Tryd.underlying151
 a80:=Tryd.isAgg151
 z80:=Tryd.sizeOf151
 v80:=Tryd.zeroValue151
 i80:=by kernel_rfl
 t82:=Tryd.underlying153
 a82:=Tryd.isAgg153
 z82:=Tryd.sizeOf153
 v82:=Tryd.zeroValue153
 i82:=by kernel_rfl
end Ms

namespace Ms
open Nat renaming reduceEqDiff → n0,reduceAdd → n1,reduceMul → n2,reduceSub → n3,reduceLT → n4,reduceLeDiff → n5
open Int renaming reduceEq → i0,reduceLT → i1,reduceLE → i2,reduceNeg → i3,reduceAdd → i4,reduceSub → i5,reduceMul → i6,reduceToNat → i7
set_option maxRecDepth 4000
open Go Go.Proofs Go.Shelf
attribute [local congr] W_congr WPsq_congr WPp_congr optK_congr addrK_congr intK_congr boolK_congr sliceK_congr tupleK_congr funcK_congr Fn_congr rawK_congr takeK_congr stepK_congr convK_congr aggK_congr

theorem calls_bool {P:Program} {f:Nat} {args:Array Value} {w W:World} {b:Bool} (h:Fn P f args w fun r w'=>r = .bool b∧w'=W.drew):Calls P f args w fun e w'=>e = .returned (.bool b)∧∃ q,w'=W.drewN q :=
 Calls.mono h fun e w' he=>by
  cases e with
  | returned v=>exact ⟨by rw [he.1],1,he.2⟩
  | _=>exact he.elim

theorem sort_fn {row c b4 N:Nat} {y:Blk} {fr:Nat × Nat} {rest:List Value} (xs:Array Nat) (w:World) (hrow:blk w row=some ((xs.toList.map u32V++rest).toArray,48,fr)) (ht:thaw fr 0 N=true) (hN:xs.size≤N)
  (hb4:blk w b4=some y) (hy:y.1[0]? = some (.slice (some ⟨row,0,none⟩) xs.size c)) (hne:b4≠row) (ks:List Nat) (hp:xs.toList.Perm ks) (hk:ks.Pairwise (· < ·)) (hsz:xs.size < 4611686018427387904) :
  Fn Tryd.prog 41 #[.iface 90 (.slice (some ⟨row,0,none⟩) xs.size c),.func (.func 42) #[] #[.pointer (some ⟨b4,0,none⟩)]] w fun _ w' =>
   Upd (fun b=>b=row) w w'∧blk w' row=some ((ks.map u32V++rest).toArray,48,fr):=by
 have hT:(Tryd.prog.info? 90).map (fun i=>i.desc)=some (.slice 48):=by kernel_rfl
 obtain ⟨iT,hiT,hdT⟩:=Option.map_eq_some_iff.1 hT
 have hE:(Tryd.prog.info? 48).map (fun i=>(i.size,i.hasPointers,i.bytes))=some (1,false,4):=by kernel_rfl
 obtain ⟨iE,hiE,hdE⟩:=Option.map_eq_some_iff.1 hE
 have hE1:iE.size=1:=congrArg (·.1) hdE
 have hE2:iE.hasPointers=false:=congrArg (·.2.1) hdE
 have hE3:iE.bytes=4:=congrArg (·.2.2) hdE
 have hpk:Tryd.prog.packed 90=false:=by kernel_rfl
 have hagg:∀ w,(isAgg 48).run Tryd.prog w = .ok false w:=fun _=>by kernel_rfl
 have hke:∀ w,(Extern.Rtype.kind 48).run Tryd.prog w = .ok 10 w:=fun _=>by kernel_rfl
 by_cases h2:2≤xs.size
 ·have hsK:Lib.swapperK xs.size iE 10=6:=by
   have c:(xs.size == 0)=false:=beq_eq_false_iff_ne.2 (by omega)
   have d:(xs.size == 1)=false:=beq_eq_false_iff_ne.2 (by omega)
   simp [Lib.swapperK,hE2,hE3,c,d]
  have hf : Tryd.prog.funcs.findIdx? (·.name == "internal/reflectlite" ++ ".Swapper$" ++ toString (Lib.swapperK xs.size iE 10)) = some 66 := by rw [hsK];kernel_rfl
  have hless:LessReads Tryd.prog 42 #[.pointer (some ⟨b4,0,none⟩)] u32V ltNat row 0 xs.size w:=by
   intro m os dk hs i j hi hj
   refine calls_bool ?_
   have hrow':blk (Go.Sort.grow (Go.Sort.putRow u32V (Go.Sort.ahead w m) row 0 dk) os) row=some ((dk.toList.map u32V++rest).toArray,48,fr):=by
    rw [blk_putRow hrow]
    simp only [putCells_row xs dk rest hs]
   have hb4':blk (Go.Sort.grow (Go.Sort.putRow u32V (Go.Sort.ahead w m) row 0 dk) os) b4=some y:=(upd_putRow w m row 0 dk os).blk_some hb4 hne
   have at_:∀ t,t < xs.size→((dk.toList.map u32V++rest).toArray)[t]? = some (u32V dk[t]!):=by
    intro t ht
    rw [List.getElem?_toArray,List.getElem?_append_left (by simp;omega),List.getElem?_map,Array.getElem?_toList,Array.getElem?_eq_getElem (by omega),getElem!_pos dk t (by omega)]
    rfl
   exact less_fn (row:=row) (bx:=b4) _ hb4' hy hrow' hi hj (at_ i hi) (at_ j hj)
  have hS:=Any.sort_Slice_sorted sl6 90 48 iT iE hiT hdT hpk hiE 10 hke hE1 hagg u32V (fun _=>rfl) ltNat swo_ltNat 42 _
   (enters_of Tryd.func42 (by kernel_rfl) rfl) row 0 c xs h2 hsz 66 hf true
   (fun args W=>run_callFunc_extern Tryd.func66 (by kernel_rfl) (by kernel_rfl) (by kernel_rfl) (e:=Extern.ReflectliteSwapper.swap true) (by kernel_rfl) args W) w hless (holds_row hrow ht hN) (blk_lt hrow)
  change Calls Tryd.prog 41 _ _ _ at hS
  refine Calls.mono hS ?_
  rintro e w' ⟨rfl,d',n,os,hP,hSo,rfl⟩
  have hd:=sorted_keys hP hSo hp hk
  refine ⟨upd_putRow w n row 0 d' os,?_⟩
  rw [blk_putRow hrow]
  simp only [putCells_row xs d' rest hP.1,hd]
 ·have hf : ∃ f,Tryd.prog.funcs.findIdx? (·.name == "internal/reflectlite" ++ ".Swapper$" ++ toString (Lib.swapperK xs.size iE 10)) = some f := by
   have h01:xs.size=0∨xs.size=1:=by omega
   rcases h01 with h|h
   ·refine ⟨61,?_⟩
    rw [h]
    kernel_rfl
   ·refine ⟨62,?_⟩
    rw [h]
    kernel_rfl
  obtain ⟨f,hf⟩:=hf
  have hS:=Any.sort_Slice_tiny sl6 90 48 iT iE hiT hdT hpk hiE 10 hke (some ⟨row,0,none⟩) xs.size c (by omega) f hf (.func 42) #[] #[.pointer (some ⟨b4,0,none⟩)] w
  change Calls Tryd.prog 41 _ _ _ at hS
  refine Calls.mono hS ?_
  rintro e w' ⟨rfl,os,rfl⟩
  have hd:xs.toList=ks:=sorted_keys (xs:=xs) (d':=xs) ⟨rfl,fun _ _=>rfl,List.Perm.refl _⟩ (fun i j _ h1 h2=>by omega) hp hk
  refine ⟨(upd_grow w os).upd,?_⟩
  rw [(upd_grow w os).blk (blk_lt hrow) (fun h=>h),hrow,hd]
end Ms

namespace Ms
open Go.World renaming size_alloc → qI
open Ms renaming size_wr → qJ,size_drew → qK,not_noB → qL
open W renaming seqR → qA,seq → qB,regR → qC,condK → qD,block → qE,skip → qF,ret → qG,exit → qH
open Nat renaming reduceEqDiff → n0,reduceAdd → n1,reduceMul → n2,reduceSub → n3,reduceLT → n4,reduceLeDiff → n5
open Int renaming reduceEq → i0,reduceLT → i1,reduceLE → i2,reduceNeg → i3,reduceAdd → i4,reduceSub → i5,reduceMul → i6,reduceToNat → i7
set_option maxRecDepth 4000
open Go Go.Proofs Go.Shelf
attribute [local congr] W_congr WPsq_congr WPp_congr optK_congr addrK_congr intK_congr boolK_congr sliceK_congr tupleK_congr funcK_congr Fn_congr rawK_congr takeK_congr stepK_congr convK_congr aggK_congr

set_option maxHeartbeats 1000000 in
theorem EachG_fn {ok:Blocks} (F:Nat) (hF:callable Tryd.prog F=true) (lb:Array Value) {tb to:Nat} {x:Blk} {m:Value} {u u0:List TagD} (w:World)
  (hb:blk w tb=some x) (hm:x.1[to]? = some m) (ht:TagsM ok w m u0) (hpm:u.Perm u0) (hs:(u.map (·.1)).Pairwise (· < ·)) (hlen:u.length≤32767)
  (S:Nat→Prop) (hS1:¬ S tb) (hS2:∀ b,b < w.heap.size→ok b→¬ S b) (hS3:∀ b,S b→b < w.heap.size)
  (I:World→List TagD→World→Prop) (h0:∀ wl,Ext w wl→I wl [] wl)
  (hstep:∀ wl,Ext w wl→∀ done y vv w1,(done++[y]) <+: u→I wl done w1→Upd S wl w1→BytesV ok w vv y.2→y.1 < 2 ^ 32→Fn Tryd.prog F (#[.int .u32 y.1,vv]++lb) w1 fun _ w2=>I wl (done++[y]) w2∧Upd S wl w2) :
  Fn Tryd.prog 20 #[.pointer (some ⟨tb,to,none⟩),.func (.func F) #[] lb] w fun _ w'=>∃ wl,Ext w wl∧I wl u w'∧Upd S wl w':=by
 have hbl:=blk_lt hb
 refine fn_of_W Tryd.func20 rfl Tryd.results20 Tryd.ntmps20 rfl ?_
 have hul:=hpm.length_eq
 rcases ht with ⟨rfl,rfl⟩|⟨r,es,clock,rfl,hok,hr,hsz,he,hinj⟩
 ·obtain rfl:u=[]:=hpm.eq_nil
  repeat ((first|refine qA rfl ?_|apply qB|refine qC rfl ?_|apply qD|apply qE|apply qF|apply qG|apply qH);try simp (disch:=(first|omega|(simp only [qI,qJ,qK]<;>omega)|exact qL _)) only [go_sem,↓reduceIte,n0,reduceCtorEq,n1,n2,n3,n4,n5,i0,i1,i2,i3,i4,i5,i6,i7,hb,hm])
  refine wp_len_nil tagsT rfl ?_
  simp (disch:=(first|omega|(simp only [qI,qJ,qK]<;>omega)|exact qL _)) only [go_sem,↓reduceIte,n0,reduceCtorEq,n1,n2,n3,n4,n5,i0,i1,i2,i3,i4,i5,i6,i7]
  repeat ((first|refine qA rfl ?_|apply qB|refine qC rfl ?_|apply qD|apply qE|apply qF|apply qG|apply qH);try simp (disch:=(first|omega|(simp only [qI,qJ,qK]<;>omega)|exact qL _)) only [go_sem,↓reduceIte,n0,reduceCtorEq,n1,n2,n3,n4,n5,i0,i1,i2,i3,i4,i5,i6,i7])
  exact ⟨w,Upd.refl _ _,h0 w (Upd.refl _ _),Upd.refl _ _⟩
 have hrl:=heap_lt hr
 repeat ((first|refine qA rfl ?_|apply qB|refine qC rfl ?_|apply qD|apply qE|apply qF|apply qG|apply qH);try simp (disch:=(first|omega|(simp only [qI,qJ,qK]<;>omega)|exact qL _)) only [go_sem,↓reduceIte,n0,reduceCtorEq,n1,n2,n3,n4,n5,i0,i1,i2,i3,i4,i5,i6,i7,hb,hm])
 refine wp_len_map tagsT rfl hr ?_
 by_cases hz:u.length=0
 ·have hz1:(es.size:Int)=0:=by omega
  obtain rfl:u=[]:=List.eq_nil_of_length_eq_zero hz
  simp (disch:=(first|omega|(simp only [qI,qJ,qK]<;>omega)|exact qL _)) only [go_sem,↓reduceIte,n0,reduceCtorEq,n1,n2,n3,n4,n5,i0,i1,i2,i3,i4,i5,i6,i7,hz1]
  repeat ((first|refine qA rfl ?_|apply qB|refine qC rfl ?_|apply qD|apply qE|apply qF|apply qG|apply qH);try simp (disch:=(first|omega|(simp only [qI,qJ,qK]<;>omega)|exact qL _)) only [go_sem,↓reduceIte,n0,reduceCtorEq,n1,n2,n3,n4,n5,i0,i1,i2,i3,i4,i5,i6,i7])
  exact ⟨w,Upd.refl _ _,h0 w (Upd.refl _ _),Upd.refl _ _⟩
 have hz1:¬ (es.size:Int)=0:=by omega
 simp (disch:=(first|omega|(simp only [qI,qJ,qK]<;>omega)|exact qL _)) only [go_sem,↓reduceIte,n0,reduceCtorEq,n1,n2,n3,n4,n5,i0,i1,i2,i3,i4,i5,i6,i7,hz1]
 repeat ((first|refine qA rfl ?_|apply qB|refine qC rfl ?_|apply qD|apply qE|apply qF|apply qG|apply qH);try simp (disch:=(first|omega|(simp only [qI,qJ,qK]<;>omega)|exact qL _)) only [go_sem,↓reduceIte,n0,reduceCtorEq,n1,n2,n3,n4,n5,i0,i1,i2,i3,i4,i5,i6,i7,hb,hm])
 refine wp_len_map tagsT rfl hr ?_
 simp (disch:=(first|omega|(simp only [qI,qJ,qK]<;>omega)|exact qL _)) only [go_sem,↓reduceIte,n0,reduceCtorEq,n1,n2,n3,n4,n5,i0,i1,i2,i3,i4,i5,i6,i7]
 refine wp_make (T:=90) (E:=48) (size:=1) (bytes:=4) (z:=.int .u32 0) (l:=0) (c:=es.size) (kl:=.i64) (kc:=.i64) (by kernel_rfl) (by kernel_rfl) (by simp (disch:=(first|omega|(simp only [qI,qJ,qK]<;>omega)|exact qL _)) only [go_sem,↓reduceIte,n0,reduceCtorEq,n1,n2,n3,n4,n5,i0,i1,i2,i3,i4,i5,i6,i7];rfl) (by simp (disch:=(first|omega|(simp only [qI,qJ,qK]<;>omega)|exact qL _)) only [go_sem,↓reduceIte,n0,reduceCtorEq,n1,n2,n3,n4,n5,i0,i1,i2,i3,i4,i5,i6,i7]) (by omega) (by omega) (by omega) ?_
 simp (disch:=(first|omega|(simp only [qI,qJ,qK]<;>omega)|exact qL _)) only [go_sem,↓reduceIte,n0,reduceCtorEq,n1,n2,n3,n4,n5,i0,i1,i2,i3,i4,i5,i6,i7]
 have hsl:es.size≤32767:=by omega
 generalize hw2:(wr ((w.alloc (.cells (madeCells #[.int .u32 0] (es.size * 1)) 48)).alloc (.cells #[.slice none 0 0] 90)) (w.heap.size+1) 0 [.slice (some ⟨w.heap.size,0,none⟩) 0 es.size])=w2
 have hE2:Ext w w2:=by rw [← hw2];exact (Upd.alloc (Upd.alloc (Upd.refl _ _) _) _).wr _ _ (.inl (by omega))
 have hz2:w2.heap.size=w.heap.size+2:=by rw [← hw2];simp only [size_wr,World.size_alloc]
 have hrow2:blk w2 w.heap.size=some ((List.replicate es.size (.int .u32 0)).toArray,48,(0,0)):=by rw [← hw2];simp (disch:=(first|omega|(simp only [qI,qJ,qK]<;>omega)|exact qL _)) only [go_sem,↓reduceIte,n0,reduceCtorEq,n1,n2,n3,n4,n5,i0,i1,i2,i3,i4,i5,i6,i7,made_one,Nat.mul_one]
 have hown2:Own w.heap.size w2 48 1 (.slice (some ⟨w.heap.size,0,none⟩) 0 es.size) 0 []:=⟨rfl,.inr ⟨w.heap.size,es.size,List.replicate es.size (.int .u32 0),(0,0),rfl,Nat.le_refl _,hrow2,by simp,thaw_00 _ _,Nat.zero_le _⟩⟩
 have hbx2:blk w2 (w.heap.size+1)=some (#[.slice (some ⟨w.heap.size,0,none⟩) 0 es.size],90,(0,0)):=by rw [← hw2];simp (disch:=(first|omega|(simp only [qI,qJ,qK]<;>omega)|exact qL _)) only [go_sem,↓reduceIte,n0,reduceCtorEq,n1,n2,n3,n4,n5,i0,i1,i2,i3,i4,i5,i6,i7]
 have hb2:blk w2 tb=some x:=hE2.blk_some hb id
 have hr2:w2.heap[r]? = some (.map es clock):=by rw [hE2.keep r hrl id];exact hr
 clear hw2 hrow2
 repeat ((first|refine qA rfl ?_|apply qB|refine qC rfl ?_|apply qD|apply qE|apply qF|apply qG|apply qH);try simp (disch:=(first|omega|(simp only [qI,qJ,qK]<;>omega)|exact qL _)) only [go_sem,↓reduceIte,n0,reduceCtorEq,n1,n2,n3,n4,n5,i0,i1,i2,i3,i4,i5,i6,i7,hb2,hm])
 refine wp_range tagsT rfl hr2 ?_
 simp (disch:=(first|omega|(simp only [qI,qJ,qK]<;>omega)|exact qL _)) only [go_sem,↓reduceIte,n0,reduceCtorEq,n1,n2,n3,n4,n5,i0,i1,i2,i3,i4,i5,i6,i7]
 generalize hw3:w2.alloc (.mapIter (some r) clock #[] clock)=w3
 have hE3:Ext w w3:=by rw [← hw3];exact hE2.alloc _
 have hz3:w3.heap.size=w2.heap.size+1:=by rw [← hw3,World.size_alloc]
 have hit3:w3.heap[w2.heap.size]? = some (.mapIter (some r) clock #[] clock):=by
  rw [← hw3];show (w2.heap.push _)[w2.heap.size]? = _;simp
 have hown3:Own w.heap.size w3 48 1 (.slice (some ⟨w.heap.size,0,none⟩) 0 es.size) 0 []:=by rw [← hw3];exact hown2.alloc _
 have hbx3:blk w3 (w.heap.size+1)=some (#[.slice (some ⟨w.heap.size,0,none⟩) 0 es.size],90,(0,0)):=by rw [← hw3,blk_alloc_old (by omega)];exact hbx2
 clear hw3 hown2 hbx2 hb2 hr2
 have hold:=tm_old hsz he
 have hnod:=tm_nodup hinj
 have hKU:=tm_keysU hsz he
 have hkeys:=tm_keys hsz he
 repeat ((first|refine qA rfl ?_|apply qB|refine qC rfl ?_|apply qD|apply qE|apply qF|apply qG|apply qH);try simp (disch:=(first|omega|(simp only [qI,qJ,qK]<;>omega)|exact qL _)) only [go_sem,↓reduceIte,n0,reduceCtorEq,n1,n2,n3,n4,n5,i0,i1,i2,i3,i4,i5,i6,i7])
 refine W.exitJ 0 (fun ρ w'=>∃ seen xs l rest v,Ranged es seen xs l rest∧(leftOf es seen).size=0∧blk w' (w.heap.size+1)=some (#[v],90,(0,0))∧Own w.heap.size w' 48 1 v xs.length (xs.map u32V)∧Ext w w' ∧
   ρ 0 = .pointer (some ⟨tb,to,none⟩)∧ρ 1 = .func (.func F) #[] lb∧ρ 4 = .pointer (some ⟨w.heap.size+1,0,none⟩))
  (W.loop (fun ρ w'=>∃ seen xs l rest v,Ranged es seen xs l rest∧w'.heap[w2.heap.size]? = some (.mapIter (some r) clock seen clock)∧blk w' (w.heap.size+1)=some (#[v],90,(0,0))∧Own w.heap.size w' 48 1 v xs.length (xs.map u32V)∧Ext w w' ∧
   ρ 0 = .pointer (some ⟨tb,to,none⟩)∧ρ 1 = .func (.func F) #[] lb∧ρ 4 = .pointer (some ⟨w.heap.size+1,0,none⟩)∧ρ 24 = .pointer (some ⟨w2.heap.size,0,none⟩))
   (fun _ w'=>es.size - lenBox (blk w' (w.heap.size+1))) ?_ ?_) ?_
 ·refine ⟨#[],[],[],es.toList,_,Ranged.start es,hit3,hbx3,hown3,hE3,?_,?_,?_,?_⟩<;>simp (disch:=(first|omega|(simp only [qI,qJ,qK]<;>omega)|exact qL _)) only [go_sem,↓reduceIte,n0,reduceCtorEq,n1,n2,n3,n4,n5,i0,i1,i2,i3,i4,i5,i6,i7]
 ·rintro ρ w4 ⟨seen,xs,l,rest,v,hR,hit,hbx,hown,hE4,h0',h1',h4,h24⟩
  have hr4:w4.heap[r]? = some (.map es clock):=by rw [hE4.keep r hrl id];exact hr
  have hz4:=hE4.size
  have hitl:=heap_lt hit
  obtain ⟨va,vc,rfl,hvc⟩:=hown.shape
  have hlb:lenBox (blk w4 (w.heap.size+1))=xs.length:=by rw [hbx];rfl
  repeat ((first|refine qA rfl ?_|apply qB|refine qC rfl ?_|apply qD|apply qE|apply qF|apply qG|apply qH);try simp (disch:=(first|omega|(simp only [qI,qJ,qK]<;>omega)|exact qL _)) only [go_sem,↓reduceIte,n0,reduceCtorEq,n1,n2,n3,n4,n5,i0,i1,i2,i3,i4,i5,i6,i7])
  refine wp_next (r:=w2.heap.size) (by simp (disch:=(first|omega|(simp only [qI,qJ,qK]<;>omega)|exact qL _)) only [go_sem,↓reduceIte,n0,reduceCtorEq,n1,n2,n3,n4,n5,i0,i1,i2,i3,i4,i5,i6,i7,h24]) hit hr4 hold (Nat.le_refl _) ?_ ?_
  ·intro hl0
   simp (disch:=(first|omega|(simp only [qI,qJ,qK]<;>omega)|exact qL _)) only [go_sem,↓reduceIte,n0,reduceCtorEq,n1,n2,n3,n4,n5,i0,i1,i2,i3,i4,i5,i6,i7]
   repeat ((first|refine qA rfl ?_|apply qB|refine qC rfl ?_|apply qD|apply qE|apply qF|apply qG|apply qH);try simp (disch:=(first|omega|(simp only [qI,qJ,qK]<;>omega)|exact qL _)) only [go_sem,↓reduceIte,n0,reduceCtorEq,n1,n2,n3,n4,n5,i0,i1,i2,i3,i4,i5,i6,i7])
   exact ⟨seen,xs,l,rest,_,hR,hl0,hbx,hown,hE4,h0',h1',h4⟩
  ·intro e hel w5 hw5
   obtain ⟨rest',hR',hlt⟩:=hR.step hel
   obtain ⟨hee,_⟩:=mem_leftOf hel
   obtain ⟨kn,hkn⟩:=hKU e hee
   have hknn:e.key=u32V (keyN e):=by
    obtain ⟨i,hi,rfl⟩:=List.getElem_of_mem hee
    simp only [Array.length_toList] at hi
    have:=(he i (by omega) hi).1.key
    simp only [Array.getElem_toList,keyN,this]
    simp [u32V]
   have hE45:Ext w4 w5:=by rcases hw5 with rfl|rfl;exact Upd.refl _ _;exact (Upd.refl _ _).drew
   have hh45:w5.heap=w4.heap:=by rcases hw5 with rfl|rfl<;>rfl
   generalize hw6:Go.ChangeMaps.setBlock w5 w2.heap.size (.mapIter (some r) clock (seen.push e.born) clock)=w6
   have hE6:Ext w w6:=by rw [← hw6];exact (hE4.trans hE45).setBlock _ _ (.inl (by omega))
   have hU6:Upd (fun b=>b=w2.heap.size) w5 w6:=by rw [← hw6];exact (Upd.refl _ _).setBlock _ _ (.inr rfl)
   have hz6:w6.heap.size=w4.heap.size:=by rw [← hw6,setBlock_size,hh45]
   have hit6:w6.heap[w2.heap.size]? = some (.mapIter (some r) clock (seen.push e.born) clock):=by rw [← hw6,setBlock_same _ _ _ (by rw [hh45];exact hitl)]
   have hr6:w6.heap[r]? = some (.map es clock):=by rw [hE6.keep r hrl id];exact hr
   have hbx5:blk w5 (w.heap.size+1)=some (#[.slice va xs.length vc],90,(0,0)):=by rw [blk_of_heap (w:=w4) (w':=w5) (by rw [hh45])];exact hbx
   have hbx6:blk w6 (w.heap.size+1)=some (#[.slice va xs.length vc],90,(0,0)):=hU6.blk_some hbx5 (by omega)
   have hne:¬ ownB (.slice va xs.length vc) w2.heap.size:=own_ne hown fun y hy=>by
    unfold blk at hy;rw [hit] at hy;cases hy
   have hown6:Own w.heap.size w6 48 1 (.slice va xs.length vc) xs.length (xs.map u32V):=Own.upd (Own.upd hown hE45 fun _ _ h=>h) hU6 fun b hb e=>hne (e ▸ hb)
   clear hw6
   have hkv:e.key = .int .u32 (keyN e:Nat):=hknn
   clear hknn hkn
   generalize keyN e=kk at *
   simp (disch:=(first|omega|(simp only [qI,qJ,qK]<;>omega)|exact qL _)) only [go_sem,↓reduceIte,n0,reduceCtorEq,n1,n2,n3,n4,n5,i0,i1,i2,i3,i4,i5,i6,i7]
   repeat ((first|refine qA rfl ?_|apply qB|refine qC rfl ?_|apply qD|apply qE|apply qF|apply qG|apply qH);try simp (disch:=(first|omega|(simp only [qI,qJ,qK]<;>omega)|exact qL _)) only [go_sem,↓reduceIte,n0,reduceCtorEq,n1,n2,n3,n4,n5,i0,i1,i2,i3,i4,i5,i6,i7])
   refine wp_entry (e:=e) (by simp (disch:=(first|omega|(simp only [qI,qJ,qK]<;>omega)|exact qL _)) only [go_sem,↓reduceIte,n0,reduceCtorEq,n1,n2,n3,n4,n5,i0,i1,i2,i3,i4,i5,i6,i7,h24]) hit6 hr6 hee hnod ?_
   simp (disch:=(first|omega|(simp only [qI,qJ,qK]<;>omega)|exact qL _)) only [go_sem,↓reduceIte,n0,reduceCtorEq,n1,n2,n3,n4,n5,i0,i1,i2,i3,i4,i5,i6,i7,hkv]
   repeat ((first|refine qA rfl ?_|apply qB|refine qC rfl ?_|apply qD|apply qE|apply qF|apply qG|apply qH);try simp (disch:=(first|omega|(simp only [qI,qJ,qK]<;>omega)|exact qL _)) only [go_sem,↓reduceIte,n0,reduceCtorEq,n1,n2,n3,n4,n5,i0,i1,i2,i3,i4,i5,i6,i7,hbx6,h4,hkv])
   refine wp_append ap_90_90 (m:=1) (news:=[.int .u32 kk]) (n:=xs.length) (cs:=xs.map u32V) (v:=.slice va xs.length vc) ?_ rfl (hown6.alloc (.cells #[.int .u32 kk] 48)) ?_ (Src.blk (fr:=(0,0)) (T:=48) (blk_alloc_new rfl) rfl rfl) ?_ ?_ ?_
   ·simp (disch:=(first|omega|(simp only [qI,qJ,qK]<;>omega)|exact qL _)) only [go_sem,↓reduceIte,n0,reduceCtorEq,n1,n2,n3,n4,n5,i0,i1,i2,i3,i4,i5,i6,i7]
   ·simp only [List.all_map,List.all_eq_true];intro _ _;rfl
   ·simp only [World.size_alloc];omega
   ·have:=hR.len;omega
   intro v' w7 ho7 hu7 hfr7
   obtain ⟨a7,c7,rfl,hc7⟩:=ho7.shape
   have hne6:¬ ownB (.slice va xs.length vc) (w.heap.size+1):=own_ne hown6 fun y hy=>by rw [hbx6] at hy;cases hy;exact (by decide:(90:Nat)≠48)
   have hit6':¬ ownB (.slice va xs.length vc) w2.heap.size:=hne
   have hE7:Ext w w7:=Upd.more (hE6.alloc (.cells #[.int .u32 kk] 48)) hu7 fun b hb ho=>by have:=hown6.above ho;omega
   have hbx7:blk w7 (w.heap.size+1)=some (#[.slice va xs.length vc],90,(0,0)):=hu7.blk_some (by rw [blk_alloc_old (by omega)];exact hbx6) hne6
   have hit7:w7.heap[w2.heap.size]? = some (.mapIter (some r) clock (seen.push e.born) clock):=by
    rw [hu7.keep _ (by simp only [World.size_alloc];omega) hit6',RowKit.Below.heap_alloc _ _ _ (by omega)];exact hit6
   simp (disch:=(first|omega|(simp only [qI,qJ,qK]<;>omega)|exact qL _)) only [go_sem,↓reduceIte,n0,reduceCtorEq,n1,n2,n3,n4,n5,i0,i1,i2,i3,i4,i5,i6,i7,hbx7,h4]
   generalize hw8:wr w7 (w.heap.size+1) 0 [.slice a7 (xs.length+1) c7] = w8
   have hU8:Upd (fun b=>b=w.heap.size+1) w7 w8:=by rw [← hw8];exact (Upd.refl _ _).wr _ _ (.inr rfl)
   have hE8:Ext w w8:=by rw [← hw8];exact hE7.wr _ _ (.inl (by omega))
   have hbx8:blk w8 (w.heap.size+1)=some (#[.slice a7 (xs.length+1) c7],90,(0,0)):=by rw [← hw8,blk_wr_eq,hbx7];rfl
   have hne7:¬ ownB (.slice a7 (xs.length+1) c7) (w.heap.size+1):=own_ne ho7 fun y hy=>by rw [hbx7] at hy;cases hy;exact (by decide:(90:Nat)≠48)
   have hown8:Own w.heap.size w8 48 1 (.slice a7 (xs.length+1) c7) (xs++[kk]).length ((xs++[kk]).map u32V):=by
    have:=ho7.upd hU8 (fun b hb e=>hne7 (e ▸ hb))
    simpa [u32V] using this
   have hit8:w8.heap[w2.heap.size]? = some (.mapIter (some r) clock (seen.push e.born) clock):=by rw [hU8.keep _ (heap_lt hit7) (by omega)];exact hit7
   have hlb8:lenBox (blk w8 (w.heap.size+1))=xs.length+1:=by rw [hbx8];rfl
   clear hw8
   simp (disch:=(first|omega|(simp only [qI,qJ,qK]<;>omega)|exact qL _)) only [go_sem,↓reduceIte,n0,reduceCtorEq,n1,n2,n3,n4,n5,i0,i1,i2,i3,i4,i5,i6,i7,h0',h1',h4,h24]
   refine ⟨⟨_,_,_,_,_,hR',hit8,rfl,hown8,hE8⟩,?_⟩
   rw [hlb];show es.size - (xs.length+1) < _;omega
 ·rintro ρ w4 ⟨seen,xs,l,rest,v,hR,hl0,hbx,hown,hE4,h0',h1',h4⟩
  have hperm:=hR.done hl0 hnod
  rw [hkeys] at hperm
  have hxl:xs.length=u.length:=by rw [hperm.length_eq,List.length_map,hul]
  rcases hown.2 with ⟨_,h⟩|⟨g,cap,rest2,fr,rfl,hg,hgb,hgl,hth,hcap⟩
  ·omega
  have hne:w.heap.size+1≠g:=fun e=>by
   rw [e] at hbx;rw [hbx] at hgb;simp at hgb
  have hgl4:=blk_lt hgb
  repeat ((first|refine qA rfl ?_|apply qB|refine qC rfl ?_|apply qD|apply qE|apply qF|apply qG|apply qH);try simp (disch:=(first|omega|(simp only [qI,qJ,qK]<;>omega)|exact qL _)) only [go_sem,↓reduceIte,n0,reduceCtorEq,n1,n2,n3,n4,n5,i0,i1,i2,i3,i4,i5,i6,i7,hbx,h4])
  refine (sort_fn (row:=g) (c:=cap) (b4:=w.heap.size+1) (N:=cap * 1) xs.toArray w4 hgb hth (by simp;omega) hbx rfl hne (u.map (·.1)) (by simpa using hperm.trans (hpm.symm.map (·.1))) hs (by simp;omega)).mono ?_
  rintro r5 w5 ⟨hU5,hg5⟩
  have hE5:Ext w w5:=Upd.more hE4 hU5 fun b hb e=>by omega
  have hbx5:blk w5 (w.heap.size+1)=some (#[.slice (some ⟨g,0,none⟩) xs.length cap],90,(0,0)):=hU5.blk_some hbx hne
  repeat ((first|refine qA rfl ?_|apply qB|refine qC rfl ?_|apply qD|apply qE|apply qF|apply qG|apply qH);try simp (disch:=(first|omega|(simp only [qI,qJ,qK]<;>omega)|exact qL _)) only [go_sem,↓reduceIte,n0,reduceCtorEq,n1,n2,n3,n4,n5,i0,i1,i2,i3,i4,i5,i6,i7,hbx5,h4])
  refine W.exitJ 2 (fun ρ w'=>I w5 u w'∧Upd S w5 w')
   (W.loop (fun ρ w'=>∃ j:Nat,j≤u.length∧ρ 39 = .int .i64 j∧ρ 38 = .int .i64 xs.length∧ρ 37 = .slice (some ⟨g,0,none⟩) xs.length cap∧ρ 0 = .pointer (some ⟨tb,to,none⟩)∧ρ 1 = .func (.func F) #[] lb∧I w5 (u.take j) w'∧Upd S w5 w')
    (fun ρ _=>u.length - (RowKit.intOf (ρ 39)).toNat) ?_ ?_) ?_
  ·refine ⟨0,Nat.zero_le _,?_,?_,?_,?_,?_,h0 w5 hE5,Upd.refl _ _⟩<;>simp (disch:=(first|omega|(simp only [qI,qJ,qK]<;>omega)|exact qL _)) only [go_sem,↓reduceIte,n0,reduceCtorEq,n1,n2,n3,n4,n5,i0,i1,i2,i3,i4,i5,i6,i7,h0',h1',h4]
   rfl
  ·rintro ρ w6 ⟨j,hj,h39,h38,h37,h0',h1',hI,hU⟩
   by_cases hlt:j < u.length
   ·have hnS:∀ b,w.heap.size≤b→¬ S b:=fun b hb h=>by have:=hS3 b h;omega
    have hg6:blk w6 g=some (((u.map (·.1)).map u32V++rest2).toArray,48,fr):=hU.blk_some hg5 (hnS g hg)
    have hb6:blk w6 tb=some x:=hU.blk_some (hE5.blk_some hb id) hS1
    have hr6:w6.heap[r]? = some (.map es clock):=by
     rw [hU.keep r (Nat.lt_of_lt_of_le hrl hE5.size) (hS2 r hrl hok),hE5.keep r hrl id];exact hr
    have hlt':(j:Int) < (xs.length:Int):=by omega
    have hlt2:j < xs.length:=by omega
    have hx:(((u.map (·.1)).map u32V++rest2).toArray)[j]? = some (.int .u32 (u[j].1:Nat)):=by
     rw [List.getElem?_toArray,List.getElem?_append_left (by simp;omega)]
     simp [hlt,u32V]
    obtain ⟨i,hi,hie⟩:=List.getElem_of_mem (hpm.mem_iff.1 (List.getElem_mem hlt))
    obtain ⟨hte,_⟩:=he i hi (by omega)
    rw [hie] at hte
    have hpre:u.take j++[u[j]] <+: u:=by
     rw [← List.take_succ_eq_append_getElem hlt];exact List.take_prefix _ _
    have hst:=hstep w5 hE5 (u.take j) u[j] es[i].val w6 hpre hI hU hte.val hte.num
    have hsucc:u.take (j+1)=u.take j++[u[j]]:=List.take_succ_eq_append_getElem hlt
    have hnd0:(u0.map (·.1)).Nodup:=(hpm.map (·.1)).nodup_iff.1 (List.nodup_iff_pairwise_ne.2 (hs.imp fun h=>Nat.ne_of_lt h))
    have hk3:∀ k (hk:k < es.size),k < i→es[k].key≠.int .u32 (u[j].1:Nat):=by
     intro k hk hkj h
     rw [(he k (by omega) hk).1.key] at h
     simp only [Value.int.injEq,true_and] at h
     have:=List.pairwise_iff_getElem.1 (List.nodup_iff_pairwise_ne.1 hnd0) k i (by simp;omega) (by simp;omega) hkj
     simp only [List.getElem_map,hie] at this
     omega
    have hk2:=hte.key
    generalize u[j] = y at *
    generalize hev:es[i].val=ev at *
    repeat ((first|refine qA rfl ?_|apply qB|refine qC rfl ?_|apply qD|apply qE|apply qF|apply qG|apply qH);try simp (disch:=(first|omega|(simp only [qI,qJ,qK]<;>omega)|exact qL _)) only [go_sem,↓reduceIte,n0,reduceCtorEq,n1,n2,n3,n4,n5,i0,i1,i2,i3,i4,i5,i6,i7,h39,h38,h37,hg6,hx,Int.toNat_natCast,Nat.mul_one,hb6,hm,h0',h1'])
    refine wp_lookup (i:=i) (n:=(y.1:Int)) tagsT u32T (by simp (disch:=(first|omega|(simp only [qI,qJ,qK]<;>omega)|exact qL _)) only [go_sem,↓reduceIte,n0,reduceCtorEq,n1,n2,n3,n4,n5,i0,i1,i2,i3,i4,i5,i6,i7]) (by simp (disch:=(first|omega|(simp only [qI,qJ,qK]<;>omega)|exact qL _)) only [go_sem,↓reduceIte,n0,reduceCtorEq,n1,n2,n3,n4,n5,i0,i1,i2,i3,i4,i5,i6,i7]) hr6 hKU (by omega) hk2 hk3 ?_
    simp (disch:=(first|omega|(simp only [qI,qJ,qK]<;>omega)|exact qL _)) only [go_sem,↓reduceIte,n0,reduceCtorEq,n1,n2,n3,n4,n5,i0,i1,i2,i3,i4,i5,i6,i7,hev,hF,h1']
    refine hst.mono ?_
    rintro r7 w7 ⟨hI7,hU7⟩
    repeat ((first|refine qA rfl ?_|apply qB|refine qC rfl ?_|apply qD|apply qE|apply qF|apply qG|apply qH);try simp (disch:=(first|omega|(simp only [qI,qJ,qK]<;>omega)|exact qL _)) only [go_sem,↓reduceIte,n0,reduceCtorEq,n1,n2,n3,n4,n5,i0,i1,i2,i3,i4,i5,i6,i7,h39])
    refine ⟨⟨j+1,by omega,?_,h38,h37,h0',h1',by rw [hsucc];exact hI7,hU7⟩,?_⟩
    ·rfl
    ·simp only [RowKit.intOf];omega
   ·have hlt':¬ (j:Int) < (xs.length:Int):=by omega
    repeat ((first|refine qA rfl ?_|apply qB|refine qC rfl ?_|apply qD|apply qE|apply qF|apply qG|apply qH);try simp (disch:=(first|omega|(simp only [qI,qJ,qK]<;>omega)|exact qL _)) only [go_sem,↓reduceIte,n0,reduceCtorEq,n1,n2,n3,n4,n5,i0,i1,i2,i3,i4,i5,i6,i7,h39,h38])
    have e:u.take j=u:=List.take_of_length_le (by omega)
    rw [e] at hI
    exact ⟨hI,hU⟩
  ·rintro ρ w6 ⟨hI,hU⟩
   repeat ((first|refine qA rfl ?_|apply qB|refine qC rfl ?_|apply qD|apply qE|apply qF|apply qG|apply qH);try simp (disch:=(first|omega|(simp only [qI,qJ,qK]<;>omega)|exact qL _)) only [go_sem,↓reduceIte,n0,reduceCtorEq,n1,n2,n3,n4,n5,i0,i1,i2,i3,i4,i5,i6,i7])
   exact ⟨w5,hE5,hI,hU⟩
end Ms

