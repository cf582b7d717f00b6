/- A part of the proof: see the last text. -/
import GoSem.ClaimChange
import Derived.JoinedOf
import Derived.Test.YtbbhfngjfihndadDoorCards
import Derived.Test.YtbbhfngjfihndadDoorTie
import Derived.JoinedCond
import Derived.Test.YtbbhfngjfihndadDoorC00
import Derived.Test.YtbbhfngjfihndadDoorC02
set_option linter.unusedSimpArgs false
set_option linter.unusedVariables false
namespace Ms
open Go.World renaming size_alloc → qI
open Ms renaming size_wr → qJ,size_drew → qK,not_noB → qL
open W renaming seqR → qA,seq → qB,regR → qC,condK → qD,block → qE,skip → qF,ret → qG,exit → qH
open Nat renaming reduceEqDiff → n0,reduceAdd → n1,reduceMul → n2,reduceSub → n3,reduceLT → n4,reduceLeDiff → n5
open Int renaming reduceEq → i0,reduceLT → i1,reduceLE → i2,reduceNeg → i3,reduceAdd → i4,reduceSub → i5,reduceMul → i6,reduceToNat → i7
set_option maxRecDepth 4000
open Go Go.Proofs
attribute [local congr] W_congr WPsq_congr WPp_congr optK_congr addrK_congr intK_congr boolK_congr sliceK_congr tupleK_congr funcK_congr Fn_congr rawK_congr takeK_congr stepK_congr convK_congr aggK_congr

theorem BytesV.get {ok:Blocks} {w:World} {base:Option Addr} {n cap:Nat} {s:List UInt8} (h:BytesV ok w (.slice base n cap) s) {i:Nat} (hi:i < s.length) :
  n=s.length∧∃ b o x,base=some ⟨b,o,none⟩∧ok b∧blk w b=some x∧b < w.heap.size∧x.1[o+i]? = some (byteV s[i]):=by
 obtain ⟨h1,b,o,x,h2,h3,h4,h5,h6,h7⟩:=Sl.get (by omega) h (i:=i) (by simpa using hi)
 refine ⟨by simpa using h1,b,o,x,h2,h3,h4,blk_lt h4,?_⟩
 have:=h7 0 (by omega)
 simpa using this
theorem BytesV.shape {ok:Blocks} {w:World} {v:Value} {s:List UInt8} (h:BytesV ok w v s):∃ base cap,v = .slice base s.length cap∧s.length≤cap:=by
 obtain ⟨b,c,h1,h2,_⟩:=h
 exact ⟨b,c,by simpa using h1,by simpa using h2⟩
theorem take_snoc {a b:List UInt8} {j:Nat} (h:a.take j=b.take j) (ha:j < a.length) (hb:j < b.length) (he:a[j] = b[j]):a.take (j+1)=b.take (j+1):=by
 rw [List.take_succ_eq_append_getElem ha,List.take_succ_eq_append_getElem hb,h,he]
theorem byte_eq {x y:UInt8} (h:((x.toNat:Int) != (y.toNat:Int))=false):x=y:=by
 have:(x.toNat:Int)=y.toNat:=by simpa using h
 exact UInt8.toNat_inj.1 (by omega)

theorem Same_fn {ok:Blocks} (a b:List UInt8) (va vb:Value) (w:World) (ha:BytesV ok w va a) (hb:BytesV ok w vb b) (hla:a.length < 4611686018427387904) :
  Fn Tryd.prog 16 #[va,vb] w fun v w'=>v = .bool (decide (a=b))∧Ext w w':=by
 obtain ⟨ba,ca,rfl,hca⟩:=ha.shape
 obtain ⟨bb,cb,rfl,hcb⟩:=hb.shape
 refine fn_of_W Tryd.func16 rfl Tryd.results16 Tryd.ntmps16 rfl ?_
 by_cases hl:a.length=b.length
 ·repeat ((first|refine qA rfl ?_|apply qB|refine qC rfl ?_|apply qD|apply qE|apply qF|apply qG|apply qH);try simp (disch:=(first|omega|(simp only [qI,qJ,qK]<;>omega)|exact qL _)) only [go_sem,↓reduceIte,n0,reduceCtorEq,n1,n2,n3,n4,n5,i0,i1,i2,i3,i4,i5,i6,i7])
  refine W.loop (fun ρ w'=>∃ (j:Nat),j≤a.length∧ρ 13 = .int .i64 j∧ρ 12 = .int .i64 a.length∧ρ 0 = .slice ba a.length ca∧ρ 1 = .slice bb b.length cb∧Ext w w'∧a.take j=b.take j)
   (fun ρ _=>a.length - (RowKit.intOf (ρ 13)).toNat) ?_ ?_
  ·refine ⟨0,Nat.zero_le _,?_,?_,?_,?_,Upd.refl _ _,rfl⟩<;>simp (disch:=(first|omega|(simp only [qI,qJ,qK]<;>omega)|exact qL _)) only [go_sem,↓reduceIte,n0,reduceCtorEq,n1,n2,n3,n4,n5,i0,i1,i2,i3,i4,i5,i6,i7]
   rfl
  ·rintro ρ w1 ⟨j,hj,h13,h12,h0,h1,hext,hs⟩
   have hz:=hext.size
   by_cases hlt:j < a.length
   ·obtain ⟨_,ab,ao,ax,hba,_,hax,hablt,hav⟩:=ha.get hlt
    obtain ⟨_,bbk,bo,bx,hbb,_,hbx,hbblt,hbv⟩:=hb.get (show j < b.length by omega)
    subst hba;subst hbb
    have hax1:blk w1 ab=some ax:=hext.blk_some hax id
    have hbx1:blk w1 bbk=some bx:=hext.blk_some hbx id
    have hj2:((j:Int)).toNat=j:=by omega
    repeat ((first|refine qA rfl ?_|apply qB|refine qC rfl ?_|apply qD|apply qE|apply qF|apply qG|apply qH);try simp (disch:=(first|omega|(simp only [qI,qJ,qK]<;>omega)|exact qL _)) only [go_sem,↓reduceIte,n0,reduceCtorEq,n1,n2,n3,n4,n5,i0,i1,i2,i3,i4,i5,i6,i7,h13,h12])
    refine W.drawR (.take 0 (.take 1 (.take 2 (.take 3 (.take 4 (.take 5 (.take 6 (.take 7 (.take 8 .done))))))))) NoB mixed (by kernel_rfl) ?_
    simp (disch:=(first|omega|(simp only [qI,qJ,qK]<;>omega)|exact qL _)) only [go_sem,↓reduceIte,n0,reduceCtorEq,n1,n2,n3,n4,n5,i0,i1,i2,i3,i4,i5,i6,i7,h0,h1,hax1,hbx1,hav,hbv,hj2,Nat.mul_one,byteV]
    repeat ((first|refine qA rfl ?_|apply qB|refine qC rfl ?_|apply qD|apply qE|apply qF|apply qG|apply qH);try simp (disch:=(first|omega|(simp only [qI,qJ,qK]<;>omega)|exact qL _)) only [go_sem,↓reduceIte,n0,reduceCtorEq,n1,n2,n3,n4,n5,i0,i1,i2,i3,i4,i5,i6,i7])
    refine ⟨fun hne => ?_,fun heq => ?_⟩
    ·repeat ((first|refine qA rfl ?_|apply qB|refine qC rfl ?_|apply qD|apply qE|apply qF|apply qG|apply qH);try simp (disch:=(first|omega|(simp only [qI,qJ,qK]<;>omega)|exact qL _)) only [go_sem,↓reduceIte,n0,reduceCtorEq,n1,n2,n3,n4,n5,i0,i1,i2,i3,i4,i5,i6,i7])
     refine ⟨?_,hext.drew⟩
     have:a≠b:=fun e=>by subst e;simp at hne
     simp [this]
    ·have he:=byte_eq heq
     repeat ((first|refine qA rfl ?_|apply qB|refine qC rfl ?_|apply qD|apply qE|apply qF|apply qG|apply qH);try simp (disch:=(first|omega|(simp only [qI,qJ,qK]<;>omega)|exact qL _)) only [go_sem,↓reduceIte,n0,reduceCtorEq,n1,n2,n3,n4,n5,i0,i1,i2,i3,i4,i5,i6,i7,h13,h12,h0,h1])
     refine ⟨⟨j+1,by omega,?_,hext.drew,take_snoc hs hlt (by omega) he⟩,?_⟩
     ·congr 1
     ·simp only [RowKit.intOf];omega
   ·repeat ((first|refine qA rfl ?_|apply qB|refine qC rfl ?_|apply qD|apply qE|apply qF|apply qG|apply qH);try simp (disch:=(first|omega|(simp only [qI,qJ,qK]<;>omega)|exact qL _)) only [go_sem,↓reduceIte,n0,reduceCtorEq,n1,n2,n3,n4,n5,i0,i1,i2,i3,i4,i5,i6,i7,h13,h12])
    refine ⟨?_,hext⟩
    have e1:j=a.length:=by omega
    subst e1
    rw [List.take_length,hl,List.take_length] at hs
    simp [hs]
 ·repeat ((first|refine qA rfl ?_|apply qB|refine qC rfl ?_|apply qD|apply qE|apply qF|apply qG|apply qH);try simp (disch:=(first|omega|(simp only [qI,qJ,qK]<;>omega)|exact qL _)) only [go_sem,↓reduceIte,n0,reduceCtorEq,n1,n2,n3,n4,n5,i0,i1,i2,i3,i4,i5,i6,i7])
  refine ⟨?_,Upd.refl _ _⟩
  have:a≠b:=fun e=>hl (by rw [e])
  simp [this]

end Ms

namespace Ms
open Nat renaming reduceEqDiff → n0,reduceAdd → n1,reduceMul → n2,reduceSub → n3,reduceLT → n4,reduceLeDiff → n5
open Int renaming reduceEq → i0,reduceLT → i1,reduceLE → i2,reduceNeg → i3,reduceAdd → i4,reduceSub → i5,reduceMul → i6,reduceToNat → i7
set_option maxRecDepth 4000
open Go Go.Proofs
attribute [local congr] W_congr WPsq_congr WPp_congr optK_congr addrK_congr intK_congr boolK_congr sliceK_congr tupleK_congr funcK_congr Fn_congr rawK_congr takeK_congr stepK_congr convK_congr aggK_congr

end Ms

namespace Ms
def flexB (flex ver:Int):Bool:=decide (0≤flex) && decide (flex≤ver)
end Ms

namespace Ms
open Go
variable {P : Program}
theorem wp_copyN {T X E:TypeId} (F:AppT P T X E 1 1) {w:World} {ρ:Regs} {d:Option Nat} {x y:Operand} {type:TypeId} {pos:String} {after:Array Edge} {guard:Option (Nat × Bool)} {K:Regs→World→Prop} {v:Value} {s:List UInt8} {ok:Blocks}
  (hx:ev ρ x = .slice none 0 0) (hy:ev ρ y=v) (hv:BytesV ok w v s) (hl:s.length≤2 ^ 45)
  (hk:∀ v' w',OwnBy E w.heap.size w' v' s→Ext w w'→(∀ b,ownB v' b→w.heap.size≤b)→K (put ρ d v') w') :
  rawK P { dst:=d,op:=.call { callee:=.builtin .append,args:=#[x,y],argTypes:=#[T,X] },type:=type,pos:=pos,after:=after,guard:=guard } ρ w K:=by
 refine wp_append F (B:=w.heap.size) (n:=0) (cs:=[]) (m:=s.length) (news:=s.map byteV) hx hy (Own.nil _ _ _ _) rfl hv.src (Nat.le_refl _) (by omega) ?_
 intro v' w' h1 h2 h3
 refine hk v' w' ?_ (h2.mono ?_) ?_
 ·rw [List.nil_append,Nat.zero_add] at h1;exact h1
 ·rintro b ⟨a,n,c,h,_⟩;cases h
 ·intro b hb
  rcases h3 b hb with ⟨a,n,c,h,_⟩|h
  ·cases h
  ·exact h

theorem iface_of {P:Program} {w:World} {t:TypeId} {m:Array (String × TypeId)} {fuel:Nat} {cs:List Value} {n:String} {d:DataW Unit} {p:List MemPlace} (hu:P.underlying t=some (.interface m))
  (h:DataW.trod (fun _=>()) P w 0 (fun _=>true) false fuel t cs=some (.iface n d,p)):∃ u v,cs=[.iface u v]:=by
 cases fuel with
 | zero=>simp [DataW.trod] at h
 | succ fuel =>
  unfold DataW.trod at h
  rw [hu] at h
  match cs with
  | []=>simp at h
  | [v]=>cases v<;>simp at h<;>exact ⟨_,_,rfl⟩
  | _ :: _ :: _=>simp at h

inductive Sized : Nat→Tree→Prop
 | mk {N:Nat} {n:Int} {s:List UInt8} {null:Bool} {l:List Tree} {u:List TagD} (ns:List Nat) (hl:ns.length=l.length) (he:∀ i (h1:i < l.length) (h2:i < ns.length),Sized ns[i] l[i])
   (hk:∀ x∈u,x.1 < 4294967296) (hN:1+s.length+ns.sum+(u.map fun x=>x.2.length+1).sum≤N):Sized N (.mk n s null l u)
theorem Sized.zero : Sized 1 .zero:=.mk [] rfl (fun i h=>by simp at h) (fun x h=>by simp at h) (by simp)
theorem Sized.mono {N M:Nat} {t:Tree} (h:Sized N t) (hm:N≤M):Sized M t:=by
 cases h with
 | mk ns hl he hk hN=>exact .mk ns hl he hk (by omega)
theorem Sized.pos {N:Nat} {t:Tree} (h:Sized N t):1≤N:=by
 cases h with
 | mk ns hl he hk hN=>omega
theorem Sized.s {N:Nat} {t:Tree} (h:Sized N t):t.s.length≤N:=by
 cases h with
 | mk ns hl he hk hN=>simp only [Tree.s];omega
theorem sum_get_le {ns:List Nat} {i:Nat} (h:i < ns.length):ns[i]≤ns.sum:=by
 induction ns generalizing i with
 | nil=>simp at h
 | cons a ns ih =>
  cases i with
  | zero=>simp
  | succ i =>
   have:=ih (i:=i) (by simpa using h)
   simp only [List.getElem_cons_succ,List.sum_cons];omega
theorem Sized.at {N:Nat} {t:Tree} (h:Sized N t) (i:Nat):Sized N (t.at i):=by
 have hp:=h.pos
 by_cases hi:i < t.l.length
 ·have e:t.at i=t.l[i]:=by simp [Tree.at,hi]
  rw [e]
  cases h with
  | mk ns hl he hk hN =>
   simp only [Tree.l] at hi ⊢
   have:=sum_get_le (ns:=ns) (i:=i) (by omega)
   exact (he i hi (by omega)).mono (by omega)
 ·have e:t.at i = .zero:=by simp [Tree.at,hi]
  rw [e];exact Sized.zero.mono hp

def cst : Nat→List Fld→Nat
 | 0,_=>0
 | d+1,fs=>(fs.map fun f=>2 * cst d f.sub+40).sum+60

section
variable {pt : List Fld→Int→Bool→Tree→List UInt8} {v:Int} {flex:Bool} {sub:List Fld} {C:Nat} (hp:∀ N x,Sized N x→(pt sub v flex x).length≤C * (N+1))
include hp
omit hp in
end

structure Bulk {H:Type} (bk:DataW H→Nat) (ba:List (DataW H)→Nat):Prop where
 pos:∀ d,1≤bk d
 slice:∀ e s,bk (.slice e s)=ba e+ba s+1
 agg:∀ p,bk (.agg p)=ba p+1
 nil:ba [] = 0
 cons:∀ d r,ba (d :: r)=bk d+ba r
theorem Bulk.sum {H:Type} {bk:DataW H→Nat} {ba:List (DataW H)→Nat} (h:Bulk bk ba):∀ l,ba l=(l.map bk).sum
 | []=>h.nil
 | d :: r=>by rw [h.cons,List.map_cons,List.sum_cons,h.sum r]
theorem Bulk.len {H:Type} {bk:DataW H→Nat} {ba:List (DataW H)→Nat} (h:Bulk bk ba):∀ l,l.length≤ba l
 | []=>by simp
 | d :: r=>by have:=h.len r;have:=h.pos d;rw [h.cons,List.length_cons];omega
section
variable {H : Type} {enc:TypeId × Value→H} {P:Program} {w:World} {base:Nat} {spare:Nat→Bool} {held:Bool}
variable {bk : DataW H→Nat} {ba:List (DataW H)→Nat} (hbk:Bulk bk ba)
include hbk
theorem open_bytesB {y S:TypeId} (hy:P.underlying y=some (.int .u8)) (cy:P.cellsOf y=1) (b_y:P.bytesOf y=1) (hS:P.underlying S=some (.slice y)) {fuel:Nat} {cs:List Value} {x:DataW H × List MemPlace} (h:DataW.trod enc P w base spare held fuel S cs=some x) (hf:Fits P S x.1) :
  ∃ v s,cs=[v]∧BytesV AnyB w v s∧s.length≤140737488351232∧s.length+1≤bk x.1:=by
 rcases DataW.trod_slice hS h with ⟨rfl,rfl⟩|⟨a,len,cap,elems,rest,n,rfl,rfl,rfl,h1,h2,h3,h4,h5,h6,h7⟩
 ·exact ⟨_,[],rfl,⟨none,0,rfl,Nat.le_refl _,by simp,.inl rfl⟩,by simp,by have:=hbk.pos DataW.nil;simpa using this⟩
 ·have hfs:=fits_slice hS hf
  simp only [List.length_map,b_y,reachBytes] at hfs
  obtain ⟨css,hc1,hc2,hc3⟩:=sl_elems (w:=w) (base:=base) (size:=1) (by omega) (a:=a) (len:=len) (cap:=cap) h2 (R:=fun i cs=>∃ b,ByteC b cs) (fun i hi=>by
   have:=h5 i hi
   rw [cy,List.getElem?_eq_getElem (by omega)] at this
   obtain ⟨cs,hcs,ht⟩:=Option.bind_eq_some_iff.1 this
   obtain ⟨n',rfl,hw⟩:=trod_int' hy ht
   refine ⟨_,hcs,UInt8.ofNat n'.toNat,?_⟩
   simp only [Lit.wf,Bool.and_eq_true,decide_eq_true_eq,IntKind.min,IntKind.max,IntKind.signed,IntKind.bits] at hw
   unfold ByteC byteV
   congr 2
   simp only [UInt8.toNat_ofNat']
   simp at hw
   omega)
  obtain ⟨s,hs1,hs2⟩:=all_choice (n:=css.length) (R:=fun i b=>∀ hi:i < css.length,ByteC b css[i]) (fun i hi=>by obtain ⟨b,hb⟩:=hc3 i hi;exact ⟨b,fun _=>hb⟩)
  refine ⟨_,s,rfl,?_,by omega,by
   rw [hbk.slice]
   have:=hbk.len (elems.map (·.1))
   rw [List.length_map] at this
   omega⟩
  have:css=s.map fun b=>[byteV b]:=by
   apply List.ext_getElem
   ·simp [hs1]
   ·intro i g1 g2
    simp only [List.getElem_map]
    exact hs2 i (by omega) g1
  rw [this] at hc1
  exact hc1

variable {y B N K S G U T L:TypeId}
end

theorem words_ne : ∀ a:List Char,wordsSigns a≠[]
 | []=>by simp [wordsSigns]
 | c :: r=>by
  unfold wordsSigns
  split
  ·simp
  ·simp
  ·split<;>simp
theorem words_app : ∀ (a r:List Char),wordsSigns (a++' ' :: r)=wordsSigns a++wordsSigns r
 | [],r=>by
  rw [List.nil_append]
  conv=>lhs;unfold wordsSigns
  simp [wordsSigns]
 | c :: a,r=>by
  have ih:=words_app a r
  have hn:=words_ne a
  by_cases hc:c=' '
  ·subst hc
   have e:∀ l,wordsSigns (' ' :: l)=[] :: wordsSigns l:=fun l=>by rw [wordsSigns]
   rw [List.cons_append,e,e,ih];rfl
  ·rw [List.cons_append]
   have e:∀ l,wordsSigns (c :: l)=match wordsSigns l with|w :: ws=>(c :: w) :: ws|[]=>[[c]]:=fun l=>by
    conv=>lhs;unfold wordsSigns
    split
    ·rename_i h;cases h
    ·rename_i h;cases h;exact absurd rfl hc
    ·rename_i h;cases h;rfl
   rw [e,e,ih]
   cases hw:wordsSigns a with
   | nil=>exact absurd hw hn
   | cons w ws=>rfl
def cutHead : List (List Char)→Bool
 | [h,s,c] => h == "harness".toList && isSumSigns s && c == "cut".toList
 | _=>false
def Cut (P : Program) : Prop := ∃ W,behindMainWord (wordsSigns P.initOrder.toList) = "cut".toList :: W
theorem cut_of {P:Program} (k:Nat) (hs:P.initOrder.toList=P.initOrder.toList.take k++' ' :: P.initOrder.toList.drop (k+1)) (hA:cutHead (wordsSigns (P.initOrder.toList.take k))=true):Cut P:=by
 unfold Cut
 rw [hs,words_app]
 generalize wordsSigns (P.initOrder.toList.take k)=A at hA
 generalize wordsSigns (P.initOrder.toList.drop (k+1))=W
 match A,hA with
 | [h,s,c],hA =>
  unfold cutHead at hA
  simp only [Bool.and_eq_true] at hA
  obtain ⟨⟨h1,h2⟩,h3⟩:=hA
  refine ⟨W,?_⟩
  have hc : c = "cut".toList := eq_of_beq h3
  subst hc
  show behindMainWord (h :: s :: ("cut".toList :: W)) = _
  unfold behindMainWord
  simp only [h1,h2,Bool.true_or,Bool.and_self,if_true]
theorem strip_cut (W : List (List Char)) : stripLifts liftWords ("cut".toList :: W) = ([],"cut".toList :: W) := rfl
theorem headLifts_of {P:Program} (h:Cut P):P.headLifts=[]:=by
 obtain ⟨W,h⟩:=h
 unfold Program.headLifts
 rw [h,strip_cut]
 rfl
theorem mayEnter_of {P:Program} (h:Cut P) (h1:P.laysLater=false) (h2:P.bearsReflect=false) (h3:P.doorFits [] = true):P.mayEnter=true:=by
 obtain ⟨W,h⟩:=h
 unfold Program.mayEnter
 rw [h]
 simp only [strip_cut,h1,h2,h3]
 rfl
theorem liftsFinal_of {P:Program} (h:Cut P):P.liftsFinal=false:=by
 have hl:=headLifts_of h
 obtain ⟨W,h⟩:=h
 unfold Program.liftsFinal
 rw [h,hl]
 rfl
theorem make_of {P:Program} (h:Cut P):P.make=some .cut:=by
 obtain ⟨W,h⟩:=h
 unfold Program.make
 rw [h]
 rfl
end Ms

namespace Go.Proofs.YtbbhfngjfihndadDoor
theorem isCut : Ms.Cut Tryd.pinned.checked.prog:=Ms.cut_of 76 (by kernel_rfl) (by kernel_rfl)
theorem laysLater0 : Tryd.pinned.checked.prog.laysLater=false:=by kernel_rfl
theorem bears0 : Tryd.pinned.checked.prog.bearsReflect=false:=by kernel_rfl
theorem doors0 : Tryd.pinned.checked.prog.doorFits [] = true:=by kernel_rfl
theorem enters0 : Tryd.pinned.checked.prog.mayEnter=true:=Ms.mayEnter_of isCut laysLater0 bears0 doors0
theorem lifts0 : Tryd.pinned.checked.prog.liftsFinal=false:=Ms.liftsFinal_of isCut
theorem make0 : Tryd.pinned.checked.prog.make=some .cut:=Ms.make_of isCut
theorem hears0 : Tryd.pinned.checked.prog.stopsHeard=true:=by kernel_rfl
theorem laid0 : laidOutB Tryd.pinned.checked.prog=true:=by kernel_rfl
theorem rowed0 : mapsRowed Tryd.pinned.checked.prog=true:=by kernel_rfl
end Go.Proofs.YtbbhfngjfihndadDoor

