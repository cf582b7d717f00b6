/- A part of the proof: see the last text. -/
import Derived.Laws.IdiomStrings
import Derived.Test.YtpaofegplnfiiaaGreatDoorC05
import Derived.Test.YtpaofegplnfiiaaGreatDoorC08
set_option linter.unusedSimpArgs false
set_option linter.unusedVariables false
namespace Ms
open Go

theorem Sized.el {N:Nat} {t:Tree} (h:Sized N t) {k:Nat} (hk:k < t.l.length):∃ M,Sized M t.l[k]:=by
 cases h with
 | mk ns hl he hk' hN=>exact ⟨_,he k hk (by simp only [Tree.l] at hk;omega)⟩
theorem rdTag_unk (u:List TagD) (x:TagD) (r:List UInt8) (hk:x.1 < 4294967296):rdTag u (some (unkT x++r))=(tagPut u (x.1,wholeS x.2),some r):=by
 have hw:=wholeS_len x.2
 have e:unkT x++r=uvarS x.1++(uvarS (wholeS x.2).length++(wholeS x.2++r)):=by simp [unkT,oneTag]
 unfold rdTag
 rw [e,rdUv_uvar _ _ hk]
 simp only
 rw [rdUv_uvar _ _ (by omega)]
 simp only
 rw [rdSpan_app]
theorem rdTagsN_unk : ∀ (l acc:List TagD) (r:List UInt8),(∀ x∈l,x.1 < 4294967296)→(∀ x∈l,∀ y∈acc,y.1≠x.1)→l.Pairwise (fun a b=>a.1≠b.1) →
  rdTagsN l.length acc (some (l.flatMap unkT++r))=(acc++l.map fun u=>(u.1,wholeS u.2),some r)
 | [],acc,r,_,_,_=>by simp [rdTagsN]
 | x :: l,acc,r,h1,h2,h3=>by
  rw [List.length_cons,List.flatMap_cons,List.append_assoc,rdTagsN,rdTag_unk acc x _ (h1 x (by simp))]
  have hn:tagPut acc (x.1,wholeS x.2)=acc++[(x.1,wholeS x.2)]:=tagPut_new fun z hz=>h2 x (by simp) z hz
  simp only [hn]
  rw [List.pairwise_cons] at h3
  rw [rdTagsN_unk l _ r (fun y hy=>h1 y (by simp [hy])) (fun y hy z hz=>by
   rcases List.mem_append.1 hz with hz|hz
   ·exact h2 y (by simp [hy]) z hz
   ·simp only [List.mem_singleton] at hz;rw [hz];exact h3.1 y hy) h3.2]
  simp
theorem rdTags_unk (fs:List Fld) (u:List TagD) (r:List UInt8) (hk:∀ x∈u,x.1 < 4294967296) :
  rdTags (some (uvarS (unknownS fs u).length++((unknownS fs u).flatMap unkT++r)))=((unknownS fs u).map fun u=>(u.1,wholeS u.2),some r):=by
 have h:=unknownS_spec fs u
 have hl:=unknownS_len' fs u
 unfold rdTags
 rw [rdUv_uvar _ _ (by omega)]
 simp only
 rw [rdTagsN_unk _ _ _ (fun x hx=>hk x (h.2 x hx).1) (fun _ _ _ h=>by cases h) (h.1.imp fun h=>by omega)]
 simp

def wideS (v:Int) (flex:Bool) (fs:List Fld):Bool:=flex || fs.any fun f=>decide (f.tag < 0) && hasS f v
def okR : Nat→Int→Bool→List Fld→Bool
 | 0,_,_,fs=>fs.isEmpty
 | d+1,v,flex,fs=>fs.all fun f=>decide (f.tag < 0∧(f.kind=11∨f.kind=0∨numK f.kind∨(7≤f.kind∧f.kind≤10))∧(f.of=0∨numK f.of∨(7≤f.of∧f.of≤10))∧¬ (f.kind=10∧0≤f.null)) && okR d v flex f.sub && (!(hasS f v) || wideS v flex f.sub || decide (¬ (f.kind=10∨(f.kind=11∧f.of=10))))
theorem okR_el {d:Nat} {v:Int} {flex:Bool} {fs:List Fld} (h:okR (d+1) v flex fs=true) {f:Fld} (hf:f∈fs) :
  f.tag < 0∧(f.kind=11∨f.kind=0∨numK f.kind∨(7≤f.kind∧f.kind≤10))∧(f.of=0∨numK f.of∨(7≤f.of∧f.of≤10))∧¬ (f.kind=10∧0≤f.null)∧okR d v flex f.sub=true∧(hasS f v=true→(f.kind=10∨(f.kind=11∧f.of=10))→wideS v flex f.sub=true):=by
 simp only [okR,List.all_eq_true] at h
 have:=h f hf
 rw [Bool.and_eq_true,Bool.and_eq_true,decide_eq_true_eq] at this
 obtain ⟨⟨⟨h1,h2,h3,h4⟩,h5⟩,h6⟩:=this
 refine ⟨h1,h2,h3,h4,h5,fun h7 h8 => ?_⟩
 rw [h7] at h6
 simp only [Bool.not_true,Bool.false_or,Bool.or_eq_true,decide_eq_true_eq] at h6
 rcases h6 with h6|h6
 ·exact h6
 ·exact absurd h8 h6
section
variable {pr : List Fld→St→Tree × St} {pw:List Fld→Int→Bool→Tree→List UInt8} {pc:List Fld→Tree→Tree} {v:Int} {flex:Bool}
theorem fieldS_pos (f:Fld) (t:Tree) (hk:f.kind=11∨f.kind=0∨numK f.kind∨(7≤f.kind∧f.kind≤10)) (hn:¬ (f.kind=10∧0≤f.null)) (hp:f.kind=10→1≤(pw f.sub v flex t).length):1≤(fieldS pw f v flex t).length:=by
 unfold fieldS
 by_cases h11:f.kind=11
 ·rw [if_pos h11,List.length_append]
  have hc:∀ m,1≤(countedS flex (nullS f v t) m 4).length:=fun m=>by
   unfold countedS
   split
   ·simp
   ·split
    ·exact uvarS_pos _
    ·split<;>rw [fixedS_len]<;>omega
  have:=hc (if nullS f v t=true then [] else thingsS t.l).length
  omega
 ·rw [if_neg h11,if_neg hn]
  exact valueS_pos _ _ _ _ (by rcases hk with h|h|h|h<;>first|exact absurd h h11|simp [h]) hp
theorem rdL_plain (dp:List Fld→Tree) (t:Tree):∀ (fs:List Fld) (i:Nat) (r:List UInt8),
  (∀ f∈fs,hasS f v=true→∀ (i:Nat) (r:List UInt8),rdF pr v flex f (some (fieldS pw f v flex (t.at i)++r))=(cnF pc v f (t.at i),some r)) →
  rdL pr dp v flex fs (some (plainL pw v flex t fs i++r))=(cnL pc dp v t fs i,some r)
 | [],_,r,_=>rfl
 | f :: fs,i,r,h=>by
  have ih:=fun r=>rdL_plain dp t fs (i+1) r fun g hg=>h g (by simp [hg])
  rw [rdL,plainL,cnL]
  by_cases hc:f.tag < 0∧hasS f v=true
  ·rw [if_pos hc,if_pos hc,if_pos hc,List.append_assoc,h f (by simp) hc.2 i _]
   simp only [ih]
  ·rw [if_neg hc,if_neg hc,if_neg hc,List.nil_append]
   simp only [ih]
end
theorem rdP_part (v:Int) (flex:Bool):∀ (d:Nat) (fs:List Fld) (N:Nat) (t:Tree),okR d v flex fs=true→Sized N t →
  (∀ r,rdP (d+1) v flex fs (some (partS (d+1) fs v flex t++r))=(cnP (d+1) v flex fs t,some r))∧(wideS v flex fs=true→1≤(partS (d+1) fs v flex t).length):=by
 intro d
 have key:∀ (d:Nat) (fs:List Fld) (t:Tree),(∀ f∈fs,f.tag < 0)→(∀ x∈t.u,x.1 < 4294967296) →
   (∀ f∈fs,hasS f v=true→∀ (i:Nat) (r:List UInt8),rdF (rdP d v flex) v flex f (some (fieldS (partS d) f v flex (t.at i)++r))=(cnF (cnP d v flex) v f (t.at i),some r)) →
   (∀ f∈fs,hasS f v=true→∀ (i:Nat),1≤(fieldS (partS d) f v flex (t.at i)).length) →
   (∀ r,rdP (d+1) v flex fs (some (partS (d+1) fs v flex t++r))=(cnP (d+1) v flex fs t,some r))∧(wideS v flex fs=true→1≤(partS (d+1) fs v flex t).length):=by
  intro d fs t htag hu h hpos
  have hk:=knownS_none htag
  have e2:tagsS (partS d) (d+1) fs v flex t=[]:=by unfold tagsS;rw [hk];rfl
  have hp:=fun r=>rdL_plain (pr:=rdP d v flex) (pw:=partS d) (pc:=cnP d v flex) (flex:=flex) (dfP d) t fs 0 r h
  constructor
  ·intro r
   rw [partS_eq]
   unfold partT
   rw [plainS_L,e2]
   rw [rdP,cnP]
   cases flex with
   | true =>
    simp only [if_true,List.length_nil,Nat.zero_add,List.flatMap_nil,List.nil_append,List.append_assoc]
    rw [hp]
    simp only [rdTags_unk fs t.u r hu]
   | false =>
    simp only [Bool.false_eq_true,if_false]
    rw [hp]
  ·intro hw
   rw [partS_eq]
   unfold partT
   cases flex with
   | true =>
    rw [if_pos rfl,List.length_append,List.length_append]
    have:=uvarS_pos ((tagsS (partS d) (d+1) fs v true t).length+(unknownS fs t.u).length)
    omega
   | false =>
    rw [if_neg (by decide),plainS_L]
    simp only [wideS,Bool.false_or,List.any_eq_true,Bool.and_eq_true,decide_eq_true_eq] at hw
    obtain ⟨f,hf,h1,h2⟩:=hw
    have:∀ (l:List Fld) (i:Nat),f∈l→(∀ g∈l,g∈fs)→1≤(plainL (partS d) v false t l i).length:=by
     intro l
     induction l with
     | nil=>intro _ h;cases h
     | cons g l ih =>
      intro i hm hs
      rw [plainL,List.length_append]
      rcases List.mem_cons.1 hm with rfl|hm
      ·rw [if_pos ⟨h1,h2⟩]
       have:=hpos f hf h2 i
       omega
      ·have:=ih (i+1) hm fun g hg=>hs g (by simp [hg])
       omega
    exact this fs 0 hf fun _ h=>h
 induction d with
 | zero =>
  intro fs N t h hs
  have hnil:fs=[]:=by simpa [okR] using h
  subst hnil
  have hu:∀ x∈t.u,x.1 < 4294967296:=by
   cases hs with
   | mk ns hl he hk hN=>exact hk
  exact key 0 [] t (fun _ h=>by cases h) hu (fun _ h=>by cases h) (fun _ h=>by cases h)
 | succ d ih =>
  intro fs N t h hs
  have hu:∀ x∈t.u,x.1 < 4294967296:=by
   cases hs with
   | mk ns hl he hk hN=>exact hk
  have sub:∀ (f:Fld) (i:Nat),okR d v flex f.sub=true→∀ x,(f.kind=10∧x=t.at i)∨(f.kind=11∧f.of=10∧x∈(t.at i).l)→∃ M,Sized M x:=by
   intro f i _ x hx
   have ha:=hs.at i
   rcases hx with ⟨_,rfl⟩|⟨_,_,hx⟩
   ·exact ⟨_,ha⟩
   ·obtain ⟨k,hk,rfl⟩:=List.getElem_of_mem hx
    exact ha.el hk
  refine key (d+1) fs t (fun f hf=>(okR_el h hf).1) hu (fun f hf hh i r => ?_) (fun f hf hh i => ?_)
  ·obtain ⟨g1,g2,g3,g4,g5,g6⟩:=okR_el h hf
   refine rdF_field f (t.at i) r g2 g3 g4 (fun x hx r => ?_) (fun h11 h10 x hx => ?_)
   ·obtain ⟨M,hM⟩:=sub f i g5 x hx
    exact (ih f.sub M x g5 hM).1 r
   ·obtain ⟨M,hM⟩:=sub f i g5 x (.inr ⟨h11,h10,hx⟩)
    exact (ih f.sub M x g5 hM).2 (g6 hh (.inr ⟨h11,h10⟩))
  ·obtain ⟨g1,g2,g3,g4,g5,g6⟩:=okR_el h hf
   refine fieldS_pos f (t.at i) g2 g4 fun h10 => ?_
   obtain ⟨M,hM⟩:=sub f i g5 (t.at i) (.inl ⟨h10,rfl⟩)
   exact (ih f.sub M (t.at i) g5 hM).2 (g6 hh (.inl h10))

def wrapN (k n:Int):Int:=if k=1 then IntKind.i8.wrap n else if k=2 then IntKind.i16.wrap n else if k=3 then IntKind.i32.wrap n else if k=5 then IntKind.u16.wrap n else n
def sortT (u:List TagD):List TagD:=u.mergeSort fun a b=>decide (a.1≤b.1)
def tl1 (tp:List Fld→Tree→Tree) (k:Int) (sub:List Fld) (x:Tree):Tree :=
 if k=0 then .num (if x.n % 2=1 then 1 else 0)
 else if k=7 then .oct false (uuidS x.s)
 else if k=8 then .oct false x.s
 else if k=9 then .oct x.null (if x.null=true then [] else x.s)
 else if k=10 then tp sub x
 else .num (wrapN k x.n)
def tlF (tp:List Fld→Tree→Tree) (f:Fld) (x:Tree):Tree :=
 if f.kind=8∧0≤f.null then .oct x.null (if x.null=true then [] else x.s)
 else if f.kind=11 then .mk 0 [] x.null ((if x.null=true then [] else x.l).map (tl1 tp f.of f.sub)) []
 else tl1 tp f.kind f.sub x
def tlL (tp:List Fld→Tree→Tree) (t:Tree):List Fld→Nat→List Tree
 | [],_=>[]
 | f :: fs,i=>tlF tp f (t.at i) :: tlL tp t fs (i+1)
def tlP : Nat→List Fld→Tree→Tree
 | 0,_,_=>.zero
 | d+1,fs,t=>.mk 0 [] false (tlL (tlP d) t fs 0) (sortT t.u)

def Good1 (G:List Fld→Tree→Prop) (k:Int) (sub:List Fld) (x:Tree):Prop:=(k=4→IntKind.i64.wrap x.n=x.n)∧x.s.length≤32767∧(k=10→G sub x)
def GoodF (G:List Fld→Tree→Prop) (f:Fld) (x:Tree):Prop:=if f.kind=11 then x.l.length≤32767∧∀ y∈x.l,Good1 G f.of f.sub y else Good1 G f.kind f.sub x
def GoodL (G:List Fld→Tree→Prop) (t:Tree):List Fld→Nat→Prop
 | [],_=>True
 | f :: fs,i=>GoodF G f (t.at i)∧GoodL G t fs (i+1)
def GoodU (u:List TagD):Prop:=u.length≤32767∧(u.map (·.1)).Nodup∧∀ y∈u,y.2.length≤32767
def GoodP : Nat→List Fld→Tree→Prop
 | 0,_,_=>True
 | d+1,fs,t=>GoodL (GoodP d) t fs 0∧GoodU t.u
theorem GoodF.one {G:List Fld→Tree→Prop} {f:Fld} {x:Tree} (h:GoodF G f x) (hk:f.kind≠11):Good1 G f.kind f.sub x:=by unfold GoodF at h;rw [if_neg hk] at h;exact h
theorem GoodF.list {G:List Fld→Tree→Prop} {f:Fld} {x:Tree} (h:GoodF G f x) (hk:f.kind=11):x.l.length≤32767∧∀ y∈x.l,Good1 G f.of f.sub y:=by unfold GoodF at h;rw [if_pos hk] at h;exact h
theorem GoodF.listL {G:List Fld→Tree→Prop} {f:Fld} {x:Tree} (h:GoodF G f x) (hk:f.kind=11) {L:List Tree} (hL:L=if x.null=true then [] else x.l):L.length≤32767∧∀ y∈L,Good1 G f.of f.sub y:=by
 subst hL
 split
 ·exact ⟨by simp,fun y hy=>by cases hy⟩
 ·exact h.list hk
theorem RepF_listT {R:List Fld→Rel Tree} {S:List Fld→Nat} {f:Fld} {ok:Blocks} {w:World} {t:Tree} {c:List Value} (h:f.kind=11) (hr:RepF R S f ok w t c) :
  ∃ a k L,c=[.slice a L.length k]∧L=(if t.null=true then [] else t.l)∧a.isNone=t.null∧SlR ok w (sz1 S f.of f.sub) (Rep1 R f.of f.sub ok w) (.slice a L.length k) L:=by
 unfold RepF at hr
 rw [if_neg (by omega),if_pos h] at hr
 obtain ⟨v,rfl,hr⟩:=hr
 by_cases ht:t.null=true
 ·rw [if_pos ht] at hr
  subst hr
  exact ⟨none,0,[],rfl,by rw [if_pos ht],by rw [ht];rfl,[],⟨none,0,rfl,Nat.le_refl _,by simp,.inl rfl⟩,rfl,fun i h=>by simp at h⟩
 ·rw [if_neg ht] at hr
  obtain ⟨hs,a,n,k,rfl⟩:=hr
  obtain ⟨a',k',e,_⟩:=SlR.shape hs
  cases e
  exact ⟨_,_,t.l,rfl,by rw [if_neg ht],by cases h:t.null with|true=>exact absurd h ht|false=>rfl,hs⟩
theorem wrap_wider (k:IntKind) (hk:k = .i8∨k = .i16∨k = .i32∨k = .u16) (n:Int):IntKind.i64.wrap (k.wrap n)=k.wrap n:=by
 have : -9223372036854775808≤k.wrap n∧k.wrap n < 9223372036854775808:=by
  rcases hk with h|h|h|h<;>subst h<;>(unfold IntKind.wrap;simp [IntKind.bits,IntKind.signed])<;>(try split)<;>omega
 exact i64_wrap (by omega)
theorem tl8 (n:Int):IntKind.i64.wrap (IntKind.i8.wrap n)=IntKind.i8.wrap n:=wrap_wider _ (by simp) n
theorem tl16 (n:Int):IntKind.i64.wrap (IntKind.i16.wrap n)=IntKind.i16.wrap n:=wrap_wider _ (by simp) n
theorem tl32 (n:Int):IntKind.i64.wrap (IntKind.i32.wrap n)=IntKind.i32.wrap n:=wrap_wider _ (by simp) n
theorem tlu16 (n:Int):IntKind.i64.wrap (IntKind.u16.wrap n)=IntKind.u16.wrap n:=wrap_wider _ (by simp) n

theorem bytesRow_list (s:List UInt8) (cap:Nat):bytesRow ⟨s.toArray⟩ cap=(s.map byteV++List.replicate (cap - s.length) (Value.int .u8 0)).toArray:=by
 apply Array.ext'
 simp [bytesRow,ByteArray.size]
 exact fun _ _=>rfl
section
variable {P : Program}
theorem wp_octets {S T E:TypeId} (hs:P.underlying S=some .string) (hd:P.underlying T=some (.slice E)) (he:P.underlying E=some (.int .u8)) {s:List UInt8}
  {w:World} {ρ:Regs} {d:Option Nat} {x:Operand} {type:TypeId} {pos:String} {after:Array Edge} {guard:Option (Nat × Bool)} {K:Regs→World→Prop}
  (hx:ev ρ x=strV s) (hk:∀ a k w',BytesV (fun b=>w.heap.size≤b) w' (.slice (some a) s.length k) s→Ext w w'→K (put ρ d (.slice (some a) s.length k)) w') :
  rawK P { dst:=d,op:=.convert S T x,type:=type,pos:=pos,after:=after,guard:=guard } ρ w K:=by
 refine ⟨?_⟩
 have hr:=run_bytes_of_string w S T E ⟨s.toArray⟩ hs hd he
 have hsz:(⟨s.toArray⟩:ByteArray).size=s.length:=by simp [ByteArray.size]
 rw [hsz,bytesRow_list] at hr
 have hcap:s.length≤grownCap w s.length 0 E:=by unfold grownCap;simp only [Question.cut];omega
 generalize grownCap w s.length 0 E=cap at *
 have:(execOp (ev ρ) { dst:=d,op:=.convert S T x,type:=type,pos:=pos,after:=after,guard:=guard }).run P w = .ok (.value (.slice (some ⟨w.heap.size,0,none⟩) s.length cap)) (w.drew.alloc (.cells (s.map byteV++List.replicate (cap - s.length) (Value.int .u8 0)).toArray E ((s.map byteV++List.replicate (cap - s.length) (Value.int .u8 0)).toArray.size,(s.map byteV++List.replicate (cap - s.length) (Value.int .u8 0)).toArray.size+1))):=by
  have hr':(convert S T (strV s)).run P w=_:=hr
  simp only [execOp,hx,Sem.run_bind,hr',Result.andThen_ok,Sem.run_pure]
 rw [this]
 refine hk _ _ _ ?_ ((Upd.refl _ _).drew.alloc _)
 refine ⟨_,cap,by rw [List.length_map],by rw [List.length_map];exact hcap,fun cs hm => ?_,.inr ⟨_,rfl,rfl,Nat.le_refl _,_,blk_alloc_new rfl,fun i hi => ?_⟩⟩
 ·obtain ⟨b,_,rfl⟩:=List.mem_map.1 hm;rfl
 ·rw [bytes_flat] at hi ⊢
  simp only [Nat.zero_add,List.getElem?_toArray]
  exact List.getElem?_append_left hi
end
theorem bytes_at {w:World} {b o:Nat} {x:Blk} {n:Nat} {s:List UInt8} (hb:blk w b=some x) (hl:s.length=n) (h:∀ i,i < n→x.1[o+i]? = (s.map byteV)[i]?):BytesV AnyB w (.slice (some ⟨b,o,none⟩) n n) s:=by
 subst hl
 refine ⟨_,s.length,by rw [List.length_map],by rw [List.length_map];exact Nat.le_refl _,fun cs hm => ?_,.inr ⟨_,rfl,rfl,trivial,x,hb,fun i hi => ?_⟩⟩
 ·obtain ⟨b,_,rfl⟩:=List.mem_map.1 hm;rfl
 ·rw [bytes_flat] at hi ⊢
  exact h i (by simpa using hi)
theorem Own.setlast {B:Nat} {w:World} {E:TypeId} {size:Nat} {g:Nat} {n q:Nat} {xs z cs:List Value} (h:Own B w E size (.slice (some ⟨g,0,none⟩) (n+1) q) (n+1) (xs++z)) (hz:z.length=size) (hc:cs.length=size):Own B (wr w g (n * size) cs) E size (.slice (some ⟨g,0,none⟩) (n+1) q) (n+1) (xs++cs):=by
 obtain ⟨h1,h2⟩:=h
 have hl:xs.length=n * size:=by
  simp only [List.length_append,hz,Nat.succ_mul] at h1;omega
 refine ⟨by simp only [List.length_append,hc,hl,Nat.succ_mul],?_⟩
 rcases h2 with ⟨h,_⟩|⟨g',cap,rest,fr,h3,h4,h5,h6,h7,h8⟩
 ·cases h
 ·cases h3
  refine .inr ⟨g,_,rest,fr,rfl,h4,?_,by simp only [List.length_append,hc,hz] at h6 ⊢;exact h6,h7,h8⟩
  rw [List.append_assoc] at h5 ⊢
  have:=el_blk0 (vs:=cs) h5 hl (by omega)
  rw [this]
  congr 2
  have e1:=el_sets (A:=[]) (B:=[]) cs z 0 (by omega)
  simp only [List.nil_append,List.append_nil,List.length_nil,Nat.zero_add] at e1
  have e2:=wrArr_full (c:=z.toArray) (vs:=cs) (by rw [List.size_toArray];omega)
  have e3:setL z 0 cs=cs:=congrArg Array.toList (e1.symm.trans e2)
  rw [e3]
theorem sortT_perm (u:List TagD):(sortT u).Perm u:=List.mergeSort_perm _ _
theorem sortT_le (u:List TagD):(sortT u).Pairwise fun a b=>a.1≤b.1:=by
 have:=List.pairwise_mergeSort (le:=fun a b:TagD=>decide (a.1≤b.1)) (fun a b c h1 h2=>by simp at h1 h2 ⊢;omega) (fun a b=>by simp;omega) u
 exact this.imp fun h=>by simpa using h
theorem sortT_lt {u:List TagD} (h:(u.map (·.1)).Nodup):((sortT u).map (·.1)).Pairwise (· < ·):=by
 have h1:((sortT u).map (·.1)).Nodup:=((sortT_perm u).map _).nodup_iff.2 h
 have h2:((sortT u).map (·.1)).Pairwise (·≤·):=List.pairwise_map.2 (sortT_le u)
 have h3:=List.nodup_iff_pairwise_ne.1 h1
 exact (h2.and h3).imp fun h=>by omega
theorem wr_comm {w:World} {a b o p:Nat} {vs us:List Value} (h:a≠b):wr (wr w a o vs) b p us=wr (wr w b p us) a o vs:=by
 simp only [wr]
 congr 1
 apply Array.ext_getElem?
 intro i
 simp only [Array.getElem?_modify]
 by_cases h1:b=i
 ·have h2:¬ a=i:=by omega
  simp [h1,h2]
 ·simp [h1]
def LoopL (l:List (Nat × Value)) (ri:Nat) (I:Nat→World→Prop) (ρ:Regs) (w:World):Prop:=Holds l ρ∧∃ j:Nat,ρ ri = .int .i64 j∧I j w
def TreeRg (ok:Blocks) (w:World) (w':World) (r:Value) (t:Tree):Prop:=∃ cs,r = .agg cs.toArray∧TreeC (okN ok w.heap.size) w' t cs
theorem treesN (ok:Blocks) (w:World):TreesV ok w (.slice none 0 0) []:=⟨[],⟨none,0,rfl,Nat.le_refl _,by simp,.inl rfl⟩,rfl,fun i h=>by simp at h⟩
theorem tagsN (ok:Blocks) (w:World):TagsV ok w (.slice none 0 0) []:=⟨[],⟨none,0,rfl,Nat.le_refl _,by simp,.inl rfl⟩,rfl,fun i h=>by simp at h⟩

def numS (k n:Int):Int:=if k=0 then n % 2 else wrapN k n
def DfF (D:List Fld→Tree→Prop) (f:Fld) (x:Tree):Prop :=
 if f.kind=8 then x.null=decide (0≤f.null)∧x.s=[]
 else if f.kind=7 then x.s=uuidS []
 else if f.kind=9∨f.kind=11 then x.s=[]∧x.l=[]
 else if f.kind=10 then (0≤f.null→x.null=true)∧(f.null < 0→D f.sub x)
 else x.n=numS f.kind f.df
def DfP : Nat→List Fld→Tree→Prop
 | 0,_,_=>False
 | d+1,fs,g=>g.u=[]∧∀ i (h:i < fs.length),DfF (DfP d) fs[i] (g.at i)
def Told1 (T:List Fld→Tree→Tree→Prop) (kind:Int) (sub:List Fld) (t g:Tree):Prop :=
 if kind=8∨kind=9 then g.s=wholeS t.s
 else if kind=7 then g.s=uuidS t.s
 else if kind=10 then T sub t g
 else g.n=numS kind t.n
def ToldF (T:List Fld→Tree→Tree→Prop) (v:Int) (f:Fld) (t g:Tree):Prop :=
 ((f.kind=8∨f.kind=10∨mayS f v=true)→g.null=nullS f v t) ∧
 (nullS f v t=false→if f.kind=11 then g.l.length=(thingsS t.l).length∧∀ i (h:i < (thingsS t.l).length),(f.of=8∨f.of=10→(g.at i).null=false)∧Told1 T f.of f.sub (thingsS t.l)[i] (g.at i)
  else Told1 T f.kind f.sub t g)
def liveS (d:Nat) (v:Int) (flex:Bool) (f:Fld) (t:Tree):Bool:=(decide (f.tag < 0) && hasS f v) || (decide (0≤f.tag) && (flex && !(usualS d f t)))
def ToldP : Nat→Int→Bool→List Fld→Tree→Tree→Prop
 | 0,_,_,_,_,_=>False
 | d+1,v,flex,fs,t,g=>g.l.length=fs.length∧g.u=(if flex=true then (unknownS fs t.u).map fun u=>(u.1,wholeS u.2) else []) ∧
  ∀ i (h:i < fs.length),if liveS (d+1) v flex fs[i] (t.at i)=true then ToldF (ToldP d v flex) v fs[i] (t.at i) (g.at i) else DfF (DfP d) fs[i] (g.at i)

/-! ### Rows in memory -/
theorem SlR.litO {α:Type} {ok:Blocks} {w:World} {size b:Nat} {fr:Nat × Nat} {T:TypeId} {R:α→List Value→Prop} {xs:List α} {css:List (List Value)} (hok:ok b) (h:blk w b=some (css.flatten.toArray,T,fr)) (hl:∀ cs∈css,cs.length=size) (ha:All2 R xs css) :
  SlR ok w size R (.slice (some ⟨b,0,none⟩) xs.length xs.length) xs:=by
 refine ⟨css,⟨some ⟨b,0,none⟩,xs.length,by rw [ha.1],by rw [ha.1];exact Nat.le_refl _,hl,.inr ⟨_,rfl,rfl,hok,_,h,fun i hi => ?_⟩⟩,ha⟩
 simp only [Nat.zero_add,List.getElem?_toArray]
theorem All2.one {α β:Type} {R:α→β→Prop} {x:α} {y:β} (h:R x y):All2 R [x] [y] :=
 ⟨rfl,fun i h1 h2=>by
  obtain rfl:i=0:=by simp at h1;exact h1
  exact h⟩
theorem FldsV.one {w:World} {b:Nat} {fr:Nat × Nat} {T:TypeId} {f:Fld} {vs:Value} (h:blk w b=some (#[.int .i64 f.kind,.int .i64 f.fr,.int .i64 f.to,.int .i64 f.null,.int .i64 f.tag,.int .i64 f.df,.int .i64 f.of,vs],T,fr)) (hs:FldsV AnyB w vs f.sub):FldsV AnyB w (.slice (some ⟨b,0,Option.none⟩) 1 1) [f] :=
 SlR.litO (css:=[[.int .i64 f.kind,.int .i64 f.fr,.int .i64 f.to,.int .i64 f.null,.int .i64 f.tag,.int .i64 f.df,.int .i64 f.of,vs]]) trivial h (fun cs hm=>by simp only [List.mem_singleton] at hm;subst hm;rfl) (All2.one (by cases f;exact FldC.intro hs))
theorem TreesV.one {w:World} {b:Nat} {fr:Nat × Nat} {T:TypeId} {x:Tree} {c0 c1 c2 c3 c4:Value} (h:blk w b=some (#[c0,c1,c2,c3,c4],T,fr)) (hx:TreeC AnyB w x [c0,c1,c2,c3,c4]):TreesV AnyB w (.slice (some ⟨b,0,Option.none⟩) 1 1) [x] :=
 SlR.litO (css:=[[c0,c1,c2,c3,c4]]) trivial h (fun cs hm=>by simp only [List.mem_singleton] at hm;subst hm;rfl) (All2.one hx)
theorem wr16 (s:List UInt8):wrArr (List.replicate (16 * 1) (Value.int IntKind.u8 0)).toArray 0 ((s.take 16).map byteV)=((uuidS s).map byteV).toArray:=by
 apply Array.ext_getElem?
 intro k
 rw [wrArr_get]
 unfold uuidS
 simp only [List.size_toArray,List.length_replicate,List.getElem?_toArray,List.length_map,List.length_take,List.map_append,List.map_replicate,Nat.mul_one]
 have hb0:byteV 0=Value.int IntKind.u8 0:=rfl
 rw [hb0]
 simp only [List.getElem?_append,List.length_map,List.length_take,List.getElem?_replicate]
 by_cases h1:k < min 16 s.length
 ·rw [if_pos (by omega),if_pos h1];rfl
 ·rw [if_neg (by omega),if_neg h1]
  by_cases h2:k < 16
  ·rw [if_pos h2,if_pos (by omega)]
  ·rw [if_neg h2,if_neg (by omega)]
theorem OwnE.tags {B:Nat} {w:World} {E:TypeId} {v:Value} {css:List (List Value)} {ts:List TagD} {ok:Blocks} (h:OwnE B w E 2 v css) (ha:All2 (TagC ok w) ts css):TagsV AnyB w v ts :=
 ⟨css,h.sl fun _ _=>trivial,ha.imp fun _ _ h=>h.weaken fun _ _ _=>trivial⟩
theorem W.regO {P:Program} {n id:Nat} {ops:Array Oper} {Q:Exit→Regs→World→Prop} {ρ:Regs} {w:World} (k:Nat) (hf:fitsL n ops.toList=true)
  (h:∀ O DD,O=ops→DD=ops.toList.drop k→WPsq P O (ops.toList.take k++DD) (Q .normal) ρ w):W P n (.region id ops false) Q ρ w:=by
 have:=h ops _ rfl rfl
 rw [List.take_append_drop] at this
 exact W.regR hf this

def Shr {α:Type} (r:St→α × St):Prop:=∀ st,stLen (r st).2≤stLen st
/-! ### The tags -/
/-! ### The parts -/
def okDf : Nat→List Fld→Bool
 | 0,_=>true
 | d+1,fs=>decide (fs.length≤32767) && fs.all fun f=>(!decide (f.kind=4) || decide (IntKind.i64.wrap f.df=f.df)) && (!decide (f.kind=10) && !decide (f.of=10) || okDf d f.sub)
inductive All3 {α β:Type} (R:α→β→Prop):List α→List β→Prop
 | nil:All3 R [] []
 | cons {a:α} {b:β} {l:List α} {m:List β} (h:R a b) (t:All3 R l m):All3 R (a :: l) (b :: m)
theorem goodL_of {G:List Fld→Tree→Prop} {n:Int} {s:List UInt8} {nl:Bool} {u:List TagD}:∀ {fs:List Fld} {l:List Tree} (pre:List Tree),All3 (GoodF G) fs l→GoodL G (.mk n s nl (pre++l) u) fs pre.length
 | _,_,_,.nil=>trivial
 | f :: fs,x :: l,pre,.cons h t=>by
  refine ⟨?_,?_⟩
  ·have:Tree.at (.mk n s nl (pre++x :: l) u) pre.length=x:=by simp [Tree.at,Tree.l]
   rw [this];exact h
  ·have:=goodL_of (G:=G) (n:=n) (s:=s) (nl:=nl) (u:=u) (pre++[x]) t
   simpa using this
theorem good1_num {G:List Fld→Tree→Prop} {k:Int} {sub:List Fld} {n:Int} (h:k=4→IntKind.i64.wrap n=n) (hk:k≠10):Good1 G k sub (.num n):=⟨h,by simp [Tree.num,Tree.s],fun h=>absurd h hk⟩
theorem good1_oct {G:List Fld→Tree→Prop} {k:Int} {sub:List Fld} {b:Bool} {s:List UInt8} (h:s.length≤32767) (hk:k≠10):Good1 G k sub (.oct b s):=⟨fun _=>rfl,h,fun h=>absurd h hk⟩
theorem dfP_sn : ∀ d fs,(dfP d fs).s=[]∧(dfP d fs).n=0
 | 0,_=>⟨rfl,rfl⟩
 | d+1,fs=>⟨rfl,rfl⟩
theorem Good_setNull {d:Nat} {fs:List Fld} {t:Tree} (h:GoodP d fs t) (b:Bool):GoodP d fs (t.setNull b):=by
 cases t with
 | mk n s nl l u =>
  cases d with
  | zero=>trivial
  | succ d =>
   refine ⟨?_,h.2⟩
   have key:∀ (fs:List Fld) (i:Nat),GoodL (GoodP d) (.mk n s nl l u) fs i→GoodL (GoodP d) (.mk n s b l u) fs i:=by
    intro fs
    induction fs with
    | nil=>intro i _;trivial
    | cons f fs ih=>intro i h;exact ⟨h.1,ih _ h.2⟩
   exact key fs 0 h.1
theorem dfF_good {d:Nat} {dp:List Fld→Tree} {f:Fld} (hdp:f.kind=10→GoodP d f.sub (dp f.sub)∧(dp f.sub).s=[]) (h4:f.kind=4→IntKind.i64.wrap f.df=f.df):GoodF (GoodP d) f (dfF dp f):=by
 unfold GoodF dfF
 by_cases h11:f.kind=11
 ·rw [if_pos h11,if_neg (by omega),if_neg (by omega),if_neg (by omega),if_pos h11]
  exact ⟨by simp [Tree.l],fun y hy=>by simp [Tree.l] at hy⟩
 ·rw [if_neg h11]
  by_cases h8:f.kind=8
  ·rw [if_pos h8];exact good1_oct (by simp) (by omega)
  ·rw [if_neg h8]
   by_cases h7:f.kind=7
   ·rw [if_pos h7];exact good1_oct (by rw [uuidS_len];omega) (by omega)
   ·rw [if_neg h7]
    by_cases h9:f.kind=9
    ·rw [if_pos h9];exact good1_oct (by simp) (by omega)
    ·rw [if_neg h9,if_neg h11]
     by_cases h10:f.kind=10
     ·rw [if_pos h10]
      have:=hdp h10
      refine ⟨fun h=>by omega,?_,fun _=>Good_setNull this.1 _⟩
      have e:((dp f.sub).setNull (decide (0≤f.null))).s=(dp f.sub).s:=by cases dp f.sub;rfl
      rw [e,this.2];simp
     ·rw [if_neg h10];exact good1_num h4 h10
theorem okDf_f {d:Nat} {fs:List Fld} (h:okDf (d+1) fs=true) {f:Fld} (hf:f∈fs):(f.kind=4→IntKind.i64.wrap f.df=f.df)∧(f.kind=10∨f.of=10→okDf d f.sub=true):=by
 unfold okDf at h
 rw [Bool.and_eq_true] at h
 have:=List.all_eq_true.1 h.2 f hf
 simp only [Bool.and_eq_true,Bool.or_eq_true,Bool.not_eq_true',decide_eq_false_iff_not,decide_eq_true_eq] at this
 refine ⟨fun h4=>this.1.resolve_left fun h=>h h4,fun h10=>this.2.resolve_left fun h => ?_⟩
 rcases h10 with h10|h10
 ·exact h.1 h10
 ·exact h.2 h10
theorem dfP_good : ∀ (d:Nat) (fs:List Fld),okDf d fs=true→GoodP d fs (dfP d fs)
 | 0,_,_=>trivial
 | d+1,fs,h=>by
  refine ⟨?_,by simp [dfP,Tree.u,GoodU]⟩
  have key:∀ (gs:List Fld),(∀ f∈gs,f∈fs)→All3 (GoodF (GoodP d)) gs (gs.map (dfF (dfP d))):=by
   intro gs
   induction gs with
   | nil=>intro _;exact .nil
   | cons f gs ih =>
    intro hm
    have hf:=okDf_f h (hm f (by simp))
    exact .cons (dfF_good (fun h10=>⟨dfP_good d f.sub (hf.2 (.inl h10)),(dfP_sn d f.sub).1⟩) hf.1) (ih fun g hg=>hm g (by simp [hg]))
  exact goodL_of (G:=GoodP d) [] (key fs fun _ h=>h)
theorem okDf_len {d:Nat} {fs:List Fld} (h:okDf (d+1) fs=true):fs.length≤32767:=by
 unfold okDf at h
 rw [Bool.and_eq_true,decide_eq_true_eq] at h
 exact h.1
theorem small_num (n:Int):Small 32767 (.num n):=.mk (by simp) (by simp) (by simp) (fun i h=>by simp at h) (fun x h=>by simp at h)
theorem small_oct (b:Bool) {s:List UInt8} (h:s.length≤32767):Small 32767 (.oct b s):=.mk h (by simp) (by simp) (fun i h=>by simp at h) (fun x h=>by simp at h)
theorem small_list (b:Bool) {l:List Tree} (hl:l.length≤32767) (h:∀ x∈l,Small 32767 x):Small 32767 (.mk 0 [] b l []):=.mk (by simp) hl (by simp) (fun i hi=>h _ (List.getElem_mem hi)) (fun x h=>by simp at h)
theorem tl1_small {d:Nat} {k:Int} {sub:List Fld} {x:Tree} (hg:Good1 (GoodP d) k sub x) (hp:k=10→GoodP d sub x→Small 32767 (tlP d sub x)):Small 32767 (tl1 (tlP d) k sub x):=by
 unfold tl1
 split
 ·exact small_num _
 ·split
  ·exact small_oct _ (by rw [uuidS_len];omega)
  ·split
   ·exact small_oct _ hg.2.1
   ·split
    ·refine small_oct _ ?_
     split
     ·simp
     ·exact hg.2.1
    ·split
     ·rename_i h10;exact hp h10 (hg.2.2 h10)
     ·exact small_num _
theorem tlL_len (tp:List Fld→Tree→Tree) (t:Tree):∀ fs i,(tlL tp t fs i).length=fs.length
 | [],_=>rfl
 | f :: fs,i=>by simp [tlL,tlL_len tp t fs]
theorem tlP_small : ∀ (d:Nat) (fs:List Fld) (t:Tree),okDf d fs=true→GoodP d fs t→Small 32767 (tlP d fs t)
 | 0,_,_,_,_=>.mk (by simp) (by simp) (by simp) (fun i h=>by simp at h) (fun x h=>by simp at h)
 | d+1,fs,t,ho,h=>by
  have key:∀ (gs:List Fld) (i:Nat),(∀ f∈gs,f∈fs)→GoodL (GoodP d) t gs i→∀ y∈tlL (tlP d) t gs i,Small 32767 y:=by
   intro gs
   induction gs with
   | nil=>intro i _ _ y hy;simp [tlL] at hy
   | cons f gs ih =>
    intro i hm hg y hy
    rcases List.mem_cons.1 hy with rfl|hy
    ·have hf:=(okDf_f ho (hm f (by simp))).2
     unfold tlF
     split
     ·rename_i h8
      refine small_oct _ ?_
      have h1:=(hg.1.one (by omega)).2.1
      split
      ·simp
      ·exact h1
     ·split
      ·rename_i h11
       have hl:=hg.1.listL h11 rfl
       refine small_list _ (by rw [List.length_map];exact hl.1) fun x hx => ?_
       obtain ⟨z,hz,rfl⟩:=List.mem_map.1 hx
       exact tl1_small (hl.2 z hz) fun h10 hgz=>tlP_small d f.sub z (hf (.inr h10)) hgz
      ·rename_i h11
       exact tl1_small (hg.1.one h11) fun h10 hgz=>tlP_small d f.sub _ (hf (.inl h10)) hgz
    ·exact ih (i+1) (fun g hg=>hm g (by simp [hg])) hg.2 y hy
  have hu:=h.2
  exact .mk (by simp) (by rw [tlL_len];exact okDf_len ho) (by rw [(sortT_perm t.u).length_eq];exact hu.1)
   (fun i hi=>key fs 0 (fun _ h=>h) h.1 _ (List.getElem_mem hi)) (fun x hx=>hu.2.2 x ((sortT_perm t.u).mem_iff.1 hx))
theorem Small.lists {t:Tree} (h:Small 32767 t):Lists t:=by
 induction h with
 | mk hs hl hu he hd ih=>exact .mk hl hu ih

section
variable {pw : List Fld→Int→Bool→Tree→List UInt8} {pc:List Fld→Tree→Tree} {P:List Fld→Tree→Prop} {v:Int} {flex:Bool}
theorem nilS_bool (f:Fld) (b:Bool) (n:Nat):(0≤f.null→nilS f v (if (b && decide (f.null ≥ 0) && decide (v ≥ f.null))=true then -1 else (n:Int))=(b && decide (f.null ≥ 0) && decide (v ≥ f.null))):=by
 intro h
 unfold nilS
 rw [if_pos h]
 have h1:decide (f.null ≥ 0)=true:=by simpa using h
 rw [h1]
 by_cases h2:f.null≤v
 ·have h3:decide (v ≥ f.null)=true:=by simpa using h2
  rw [h3]
  cases b<;>simp
 ·have h3:decide (v ≥ f.null)=false:=by simpa using h2
  rw [h3];simp
theorem nilS_eq (f:Fld) (t:Tree) (n:Nat) (h:0≤f.null):nilS f v (if nullS f v t=true then -1 else (n:Int))=nullS f v t:=nilS_bool f t.null n h
end
theorem cnL_get (pc:List Fld→Tree→Tree) (dp:List Fld→Tree) (v:Int) (t:Tree):∀ (fs:List Fld) (i k:Nat) (h:k < fs.length),(cnL pc dp v t fs i).getD k .zero=if fs[k].tag < 0∧hasS fs[k] v=true then cnF pc v fs[k] (t.at (i+k)) else dfF dp fs[k]
 | f :: fs,i,0,h=>by simp [cnL]
 | f :: fs,i,k+1,h=>by
  have:=cnL_get pc dp v t fs (i+1) k (by simpa using h)
  simp only [cnL,List.getD_cons_succ,List.getElem_cons_succ]
  rw [this,show i+1+k=i+(k+1) by omega]

inductive N64 : Tree→Prop
 | mk {n:Int} {s:List UInt8} {null:Bool} {l:List Tree} {u:List TagD} (hn:IntKind.i64.wrap n=n) (he:∀ x∈l,N64 x):N64 (.mk n s null l u)
theorem N64.n {t:Tree} (h:N64 t):IntKind.i64.wrap t.n=t.n:=by cases h;assumption
theorem N64.l {t:Tree} (h:N64 t):∀ x∈t.l,N64 x:=by cases h;assumption
theorem N64.zero : N64 .zero:=.mk (by decide) (fun _ h=>by cases h)
theorem N64.at {t:Tree} (h:N64 t) (i:Nat):N64 (t.at i):=by
 unfold Tree.at
 rcases Nat.lt_or_ge i t.l.length with hi|hi
 ·rw [List.getD_eq_getElem?_getD,List.getElem?_eq_getElem hi];exact h.l _ (List.getElem_mem hi)
 ·rw [List.getD_eq_getElem?_getD,List.getElem?_eq_none hi];exact N64.zero
theorem TreeC.n64 {ok:Blocks} {w:World} {t:Tree} {cs:List Value} (h:TreeC ok w t cs):N64 t:=by
 induction h with
 | mk hn hS hL hl he hU ih =>
  refine .mk hn fun x hx => ?_
  obtain ⟨i,hi,rfl⟩:=List.getElem_of_mem hx
  exact ih i hi (by omega)

/-! ### What is read is of no great length -/
theorem i64_idem (n:Int):IntKind.i64.wrap (IntKind.i64.wrap n)=IntKind.i64.wrap n:=by
 have : -9223372036854775808≤IntKind.i64.wrap n∧IntKind.i64.wrap n≤9223372036854775807:=by
  unfold IntKind.wrap;simp [IntKind.bits,IntKind.signed];split<;>omega
 exact i64_wrap (by omega)
theorem cn1_good {d:Nat} {v:Int} {flex:Bool} (k:Int) (sub:List Fld) (null:Bool) (x:Tree) (hp:k=10→GoodP d sub (cnP d v flex sub x)):Good1 (GoodP d) k sub (cn1 (cnP d v flex) k sub null x):=by
 unfold cn1
 by_cases h0:k=0
 ·rw [if_pos h0];exact good1_num (by omega) (by omega)
 rw [if_neg h0]
 by_cases h7:k=7
 ·rw [if_pos h7];exact good1_oct (by rw [uuidS_len];omega) (by omega)
 rw [if_neg h7]
 by_cases h8:k=8∨k=9
 ·rw [if_pos h8]
  refine good1_oct ?_ (by omega)
  split
  ·simp
  ·simp only [wholeS,List.length_take];omega
 rw [if_neg h8]
 by_cases h10:k=10
 ·rw [if_pos h10]
  refine ⟨fun h=>by omega,?_,fun _=>hp h10⟩
  cases d<;>simp [cnP,Tree.zero,Tree.s]
 rw [if_neg h10]
 refine good1_num (fun h4 => ?_) h10
 subst h4
 exact i64_idem _
theorem cnF_good {d:Nat} {v:Int} {flex:Bool} (f:Fld) (x:Tree) (hp:f.kind=10∨f.of=10→∀ y,GoodP d f.sub (cnP d v flex f.sub y)):GoodF (GoodP d) f (cnF (cnP d v flex) v f x):=by
 unfold GoodF cnF
 by_cases h11:f.kind=11
 ·rw [if_pos h11,if_pos h11]
  simp only [Tree.l]
  split
  ·exact ⟨by simp,fun y hy=>by cases hy⟩
  ·refine ⟨by simp only [List.length_map,thingsS,List.length_take];omega,fun y hy => ?_⟩
   obtain ⟨z,_,rfl⟩:=List.mem_map.1 hy
   exact cn1_good _ _ _ _ fun h=>hp (.inr h) z
 ·rw [if_neg h11,if_neg h11]
  exact cn1_good _ _ _ _ fun h=>hp (.inl h) x
theorem cnL_all3 {R:Fld→Tree→Prop} {pc:List Fld→Tree→Tree} {dp:List Fld→Tree} {v:Int} {t:Tree}:∀ (fs:List Fld) (i:Nat),(∀ f∈fs,(∀ x,R f (cnF pc v f x))∧R f (dfF dp f))→All3 R fs (cnL pc dp v t fs i)
 | [],_,_=>.nil
 | f :: fs,i,h=>.cons (by split;exact (h f (by simp)).1 _;exact (h f (by simp)).2) (cnL_all3 fs (i+1) fun g hg=>h g (by simp [hg]))
theorem cnP_good (v:Int) (flex:Bool):∀ (d:Nat) (fs:List Fld) (t:Tree),okDf d fs=true→GoodP d fs (cnP d v flex fs t)
 | 0,_,_,_=>trivial
 | d+1,fs,t,h=>by
  refine ⟨?_,?_⟩
  ·have:=goodL_of (G:=GoodP d) (n:=0) (s:=[]) (nl:=false) (u:=if flex=true then (unknownS fs t.u).map fun u=>(u.1,wholeS u.2) else []) [] (cnL_all3 (R:=GoodF (GoodP d)) (pc:=cnP d v flex) (dp:=dfP d) (v:=v) (t:=t) fs 0 fun f hf=>by
    obtain ⟨h4,hs⟩:=okDf_f h hf
    exact ⟨fun x=>cnF_good f x fun hk y=>cnP_good v flex d f.sub y (hs hk),dfF_good (fun hk=>⟨dfP_good d f.sub (hs (.inl hk)),(dfP_sn d f.sub).1⟩) h4⟩)
   exact this
  ·show GoodU (if flex=true then (unknownS fs t.u).map fun u=>(u.1,wholeS u.2) else [])
   split
   ·refine ⟨by rw [List.length_map];exact unknownS_len' fs t.u,?_,fun y hy => ?_⟩
    ·rw [List.map_map]
     have h1:=(unknownS_spec fs t.u).1
     have:(unknownS fs t.u).map ((fun x=>x.1) ∘ fun u=>(u.1,wholeS u.2))=(unknownS fs t.u).map (·.1):=rfl
     rw [this]
     exact List.nodup_iff_pairwise_ne.2 (List.pairwise_map.2 (h1.imp fun h=>by omega))
    ·obtain ⟨z,_,rfl⟩:=List.mem_map.1 hy
     simp only [wholeS,List.length_take];omega
   ·exact ⟨by simp,by simp,fun y hy=>by cases hy⟩

/-! ### It is told as it was -/
theorem tlL_get (tp:List Fld→Tree→Tree) (t:Tree):∀ (fs:List Fld) (i k:Nat) (h:k < fs.length),(tlL tp t fs i).getD k .zero=tlF tp fs[k] (t.at (i+k))
 | f :: fs,i,0,h=>by simp [tlL]
 | f :: fs,i,k+1,h=>by
  have:=tlL_get tp t fs (i+1) k (by simpa using h)
  simp only [tlL,List.getD_cons_succ,List.getElem_cons_succ]
  rw [this,show i+1+k=i+(k+1) by omega]
theorem sortT_rising {u:List TagD} (h:u.Pairwise fun a b=>a.1 < b.1):sortT u=u :=
 List.mergeSort_of_pairwise (h.imp fun h=>by simpa using Nat.le_of_lt h)
def okT : List Fld→Bool
 | fs=>fs.all fun f=>decide (0≤f.null→8≤f.kind)
def okTs : Nat→List Fld→Bool
 | 0,_=>true
 | d+1,fs=>okT fs && fs.all fun f=>okTs d f.sub
theorem mod2_if (n:Int):(if n % 2=1 then (1:Int) else 0)=n % 2:=by split<;>omega
theorem IntKind_idem (k:IntKind) (hk:k = .i8∨k = .i16∨k = .i32∨k = .u16) (n:Int):k.wrap (k.wrap n)=k.wrap n:=by
 rcases hk with h|h|h|h<;>subst h<;>(unfold IntKind.wrap;simp [IntKind.bits,IntKind.signed])<;>(try split)<;>(try split)<;>omega
theorem wrapN_kind (k:Int) (hk:numK k) (n:Int) (h4:IntKind.i64.wrap n=n):wrapN k ((kindK k).wrap n)=numS k n:=by
 rcases hk with h|h|h|h|h|h<;>subst h<;>simp [wrapN,kindK,numS]
 ·exact IntKind_idem _ (by simp) _
 ·exact IntKind_idem _ (by simp) _
 ·exact IntKind_idem _ (by simp) _
 ·exact h4
 ·exact IntKind_idem _ (by simp) _
 ·exact h4
theorem Tree.at_mk (n:Int) (s:List UInt8) (b:Bool) (l:List Tree) (u:List TagD) (i:Nat):(Tree.mk n s b l u).at i=l.getD i .zero:=rfl
theorem map_getD {α β:Type} (f:α→β) (l:List α) (i:Nat) (h:i < l.length) (z:β):(l.map f).getD i z=f l[i]:=by
 simp [List.getD_eq_getElem?_getD,h]
section
variable {d : Nat} {v:Int} {flex:Bool}
theorem tl1_told (T:List Fld→Tree→Tree→Prop) (tp:List Fld→Tree→Tree) (k:Int) (sub:List Fld) (x:Tree) (hx:N64 x) (hk:k=0∨numK k∨(7≤k∧k≤10)) (hp:k=10→T sub x (tp sub (cnP d v flex sub x))):Told1 T k sub x (tl1 tp k sub (cn1 (cnP d v flex) k sub false x)):=by
 unfold Told1
 by_cases h8:k=8
 ·subst h8;simp [tl1,cn1,Tree.oct,Tree.s]
 by_cases h9:k=9
 ·subst h9;simp [tl1,cn1,Tree.oct,Tree.s,Tree.null]
 rw [if_neg (by omega)]
 by_cases h7:k=7
 ·subst h7;simp [tl1,cn1,Tree.oct,Tree.s,uuidS_idem]
 rw [if_neg h7]
 by_cases h10:k=10
 ·subst h10;rw [if_pos rfl];simpa [tl1,cn1] using hp rfl
 rw [if_neg h10]
 by_cases h0:k=0
 ·subst h0
  have:(x.n % 2) % 2=x.n % 2:=by omega
  simp [tl1,cn1,Tree.num,Tree.n,numS,mod2_if,this]
 ·have hn:numK k:=by rcases hk with h|h|h<;>first|exact absurd h h0|exact h|omega
  have e:tl1 tp k sub (cn1 (cnP d v flex) k sub false x) = .num (wrapN k ((kindK k).wrap x.n)):=by simp [tl1,cn1,h0,h7,h8,h9,h10,Tree.num,Tree.n]
  rw [e,wrapN_kind k hn x.n hx.n];rfl
theorem tl1_null (k:Int) (sub:List Fld) (x:Tree) (tp:List Fld→Tree→Tree) (h:k=8∨k=10) (hp:∀ x,(tp sub x).null=false):(tl1 tp k sub x).null=false:=by
 rcases h with h|h<;>subst h
 ·simp [tl1,Tree.oct,Tree.null]
 ·simpa [tl1] using hp x
theorem tlP_null (d:Nat) (fs:List Fld) (x:Tree):(tlP d fs x).null=false:=by cases d<;>rfl
theorem tlF_told (T:List Fld→Tree→Tree→Prop) (f:Fld) (x:Tree) (hx:N64 x) (hk:f.kind=11∨f.kind=0∨numK f.kind∨(7≤f.kind∧f.kind≤10)) (ho:f.of=0∨numK f.of∨(7≤f.of∧f.of≤10)) (hn:¬ (f.kind=10∧0≤f.null)) (ht:0≤f.null→8≤f.kind)
  (hp:∀ y,N64 y→T f.sub y (tlP d f.sub (cnP d v flex f.sub y))):ToldF T v f x (tlF (tlP d) f (cnF (cnP d v flex) v f x)):=by
 by_cases h11:f.kind=11
 ·have e:tlF (tlP d) f (cnF (cnP d v flex) v f x) = .mk 0 [] (nilS f v (if nullS f v x=true then -1 else ((thingsS x.l).length:Nat))) ((if nilS f v (if nullS f v x=true then -1 else ((thingsS x.l).length:Nat))=true then [] else (if nullS f v x=true then [] else (thingsS x.l).map (cn1 (cnP d v flex) f.of f.sub false))).map (tl1 (tlP d) f.of f.sub)) []:=by
   unfold tlF cnF
   rw [if_pos h11,if_neg (by omega),if_pos h11];rfl
  rw [e]
  refine ⟨fun h => ?_,fun h => ?_⟩
  ·rcases h with h|h|h
   ·omega
   ·omega
   ·simp only [mayS,Bool.and_eq_true,decide_eq_true_eq] at h
    exact nilS_eq f x _ h.1
  ·rw [if_pos h11,h]
   have hl:(if nilS f v (if (false:Bool)=true then -1 else ((thingsS x.l).length:Nat))=true then [] else (if (false:Bool)=true then ([]:List Tree) else (thingsS x.l).map (cn1 (cnP d v flex) f.of f.sub false)))=(thingsS x.l).map (cn1 (cnP d v flex) f.of f.sub false):=by
    simp only [Bool.false_eq_true,if_false]
    split
    ·rename_i hni
     have:(thingsS x.l).length=0:=by
      unfold nilS at hni
      split at hni
      ·simp only [Bool.and_eq_true,decide_eq_true_eq] at hni;omega
      ·simp only [decide_eq_true_eq] at hni;omega
     rw [List.length_eq_zero_iff.1 this];rfl
    ·rfl
   rw [hl]
   refine ⟨by simp [Tree.l],fun i hi => ?_⟩
   have hat:(Tree.mk 0 [] (nilS f v (if (false:Bool)=true then -1 else ((thingsS x.l).length:Nat))) (((thingsS x.l).map (cn1 (cnP d v flex) f.of f.sub false)).map (tl1 (tlP d) f.of f.sub)) []).at i=tl1 (tlP d) f.of f.sub (cn1 (cnP d v flex) f.of f.sub false (thingsS x.l)[i]):=by
    rw [Tree.at_mk,map_getD _ _ _ (by rw [List.length_map];exact hi),List.getElem_map]
   have hm:N64 (thingsS x.l)[i]:=hx.l _ (List.mem_of_mem_take (List.getElem_mem hi))
   rw [hat]
   exact ⟨fun h=>tl1_null _ _ _ _ h fun y=>tlP_null d f.sub y,tl1_told T (tlP d) f.of f.sub _ hm ho fun _=>hp _ hm⟩
 ·have hk':f.kind=0∨numK f.kind∨(7≤f.kind∧f.kind≤10):=by
   rcases hk with h|h
   ·exact absurd h h11
   ·exact h
  have ec:cnF (cnP d v flex) v f x=cn1 (cnP d v flex) f.kind f.sub (nullS f v x) x:=by simp [cnF,h11]
  rw [ec]
  refine ⟨fun h => ?_,fun h => ?_⟩
  ·by_cases h8:f.kind=8
   ·by_cases hnl:0≤f.null
    ·simp [tlF,cn1,h8,hnl,Tree.oct,Tree.null]
    ·simp [tlF,tl1,cn1,h8,hnl,Tree.oct,Tree.null,nullS]
   by_cases h10:f.kind=10
   ·have hnl:¬ 0≤f.null:=fun h'=>hn ⟨h10,h'⟩
    have e:tlF (tlP d) f (cn1 (cnP d v flex) f.kind f.sub (nullS f v x) x)=tlP d f.sub (cnP d v flex f.sub x):=by simp [tlF,tl1,cn1,h10]
    rw [e,tlP_null];simp [nullS,hnl]
   have hm:mayS f v=true:=by rcases h with h|h|h<;>first|exact absurd h h8|exact absurd h h10|exact h
   simp only [mayS,Bool.and_eq_true,decide_eq_true_eq] at hm
   have h8':=ht hm.1
   have h9:f.kind=9:=by
    rcases hk' with h|h|h
    ·omega
    ·unfold numK at h;omega
    ·omega
   simp [tlF,tl1,cn1,h9,Tree.oct,Tree.null]
  ·rw [if_neg h11,h]
   by_cases h8:f.kind=8∧0≤f.null
   ·have e:tlF (tlP d) f (cn1 (cnP d v flex) f.kind f.sub false x) = .oct false (wholeS x.s):=by simp [tlF,cn1,h8,Tree.oct,Tree.null,Tree.s]
    rw [e];unfold Told1;rw [if_pos (.inl h8.1)];rfl
   ·have e:tlF (tlP d) f (cn1 (cnP d v flex) f.kind f.sub false x)=tl1 (tlP d) f.kind f.sub (cn1 (cnP d v flex) f.kind f.sub false x):=by
     unfold tlF;rw [if_neg h8,if_neg h11]
    rw [e]
    exact tl1_told T (tlP d) f.kind f.sub x hx hk' fun _=>hp x hx
theorem tlF_df (D:List Fld→Tree→Prop) (f:Fld) (hk:f.kind=11∨f.kind=0∨numK f.kind∨(7≤f.kind∧f.kind≤10)) (hn:¬ (f.kind=10∧0≤f.null)) (hp:D f.sub (tlP d f.sub ((dfP d f.sub).setNull false))):DfF D f (tlF (tlP d) f (dfF (dfP d) f)):=by
 unfold DfF
 by_cases h8:f.kind=8
 ·rw [if_pos h8]
  by_cases hnl:0≤f.null<;>simp [tlF,tl1,dfF,h8,hnl,Tree.oct,Tree.null,Tree.s]
 rw [if_neg h8]
 by_cases h7:f.kind=7
 ·rw [if_pos h7];simp [tlF,tl1,dfF,h7,Tree.oct,Tree.s,uuidS_idem]
 rw [if_neg h7]
 by_cases h9:f.kind=9
 ·rw [if_pos (.inl h9)];simp [tlF,tl1,dfF,h9,Tree.oct,Tree.null,Tree.s,Tree.l]
 by_cases h11:f.kind=11
 ·rw [if_pos (.inr h11)];simp [tlF,dfF,h11,Tree.null,Tree.s,Tree.l]
 rw [if_neg (by omega)]
 by_cases h10:f.kind=10
 ·rw [if_pos h10]
  have hnl:¬ 0≤f.null:=fun h=>hn ⟨h10,h⟩
  refine ⟨fun h=>absurd h hnl,fun _ => ?_⟩
  have e:tlF (tlP d) f (dfF (dfP d) f)=tlP d f.sub ((dfP d f.sub).setNull false):=by simp [tlF,tl1,dfF,h10,hnl]
  rw [e];exact hp
 rw [if_neg h10]
 by_cases h0:f.kind=0
 ·simp [tlF,tl1,dfF,h0,Tree.num,Tree.n,numS,mod2_if]
 ·simp [tlF,tl1,dfF,h0,h7,h8,h9,h10,h11,Tree.num,Tree.n,numS]
end
theorem df_told (v:Int) (flex:Bool):∀ (d:Nat) (fs:List Fld),okR d v flex fs=true→DfP (d+1) fs (tlP (d+1) fs ((dfP (d+1) fs).setNull false)):=by
 intro d
 induction d with
 | zero =>
  intro fs h
  have hnil:fs=[]:=by simpa [okR] using h
  subst hnil
  exact ⟨sortT_rising List.Pairwise.nil,fun i h=>by cases h⟩
 | succ d ih =>
  intro fs h
  refine ⟨sortT_rising List.Pairwise.nil,fun i hi => ?_⟩
  obtain ⟨g1,g2,g3,g4,g5,g6⟩:=okR_el h (List.getElem_mem hi)
  have e:(tlP (d+1+1) fs ((dfP (d+1+1) fs).setNull false)).at i=tlF (tlP (d+1)) fs[i] (dfF (dfP (d+1)) fs[i]):=by
   rw [tlP,Tree.at_mk,tlL_get _ _ fs 0 i hi,Nat.zero_add]
   congr 1
   simp only [dfP,Tree.setNull,Tree.at_mk,Tree.l]
   exact map_getD _ _ _ hi _
  rw [e]
  exact tlF_df _ _ g2 g4 (ih fs[i].sub g5)
theorem told_cn (v:Int) (flex:Bool):∀ (d:Nat) (fs:List Fld) (t:Tree),okR d v flex fs=true→okTs d fs=true→N64 t→ToldP (d+1) v flex fs t (tlP (d+1) fs (cnP (d+1) v flex fs t)):=by
 have hu:∀ (d:Nat) (fs:List Fld) (t:Tree),(tlP (d+1) fs (cnP (d+1) v flex fs t)).u=(if flex=true then (unknownS fs t.u).map fun u=>(u.1,wholeS u.2) else []):=fun d fs t=>by
  show sortT (if flex=true then (unknownS fs t.u).map fun u=>(u.1,wholeS u.2) else [])=_
  refine sortT_rising ?_
  split
  ·exact List.pairwise_map.2 (unknownS_spec fs t.u).1
  ·exact List.Pairwise.nil
 have hl:∀ (d:Nat) (fs:List Fld) (t:Tree),(tlP (d+1) fs (cnP (d+1) v flex fs t)).l.length=fs.length:=fun d fs t=>tlL_len _ _ _ _
 intro d
 induction d with
 | zero =>
  intro fs t h _ _
  have hnil:fs=[]:=by simpa [okR] using h
  subst hnil
  exact ⟨hl 0 [] t,hu 0 [] t,fun i h=>by cases h⟩
 | succ d ih =>
  intro fs t h hT hN
  refine ⟨hl _ _ _,hu _ _ _,fun i hi => ?_⟩
  obtain ⟨g1,g2,g3,g4,g5,g6⟩:=okR_el h (List.getElem_mem hi)
  simp only [okTs,okT,Bool.and_eq_true,List.all_eq_true,decide_eq_true_eq] at hT
  have e:(tlP (d+1+1) fs (cnP (d+1+1) v flex fs t)).at i=tlF (tlP (d+1)) fs[i] (if fs[i].tag < 0∧hasS fs[i] v=true then cnF (cnP (d+1) v flex) v fs[i] (t.at i) else dfF (dfP (d+1)) fs[i]):=by
   rw [tlP,Tree.at_mk,tlL_get _ _ fs 0 i hi,Nat.zero_add]
   congr 1
   have:=cnL_get (cnP (d+1) v flex) (dfP (d+1)) v t fs 0 i hi
   rw [Nat.zero_add] at this
   exact this
  rw [e]
  have hlv:liveS (d+1+1) v flex fs[i] (t.at i)=hasS fs[i] v:=by
   have:¬ 0≤fs[i].tag:=by omega
   simp [liveS,g1,this]
  rw [hlv]
  by_cases hh:hasS fs[i] v=true
  ·rw [if_pos hh,if_pos ⟨g1,hh⟩]
   exact tlF_told (d:=d+1) (v:=v) (flex:=flex) _ fs[i] (t.at i) (hN.at i) g2 g3 g4 (hT.1 _ (List.getElem_mem hi)) fun y hy=>ih fs[i].sub y g5 (hT.2 _ (List.getElem_mem hi)) hy
  ·rw [if_neg hh,if_neg fun h=>hh h.2]
   exact tlF_df _ _ g2 g4 (df_told v flex d fs[i].sub g5)

def tagAt : List Fld→Nat→Nat→Option (Nat × Fld)
 | [],_,_=>none
 | f :: fs,i,k=>if f.tag=k then some (i,f) else tagAt fs (i+1) k
def tagX (fs:List Fld) (k:Nat):Option (Nat × Fld):=tagAt fs 0 k
theorem tagAt_none {k:Nat}:∀ {fs:List Fld} {i:Nat},(∀ f∈fs,f.tag≠k)→tagAt fs i k=none
 | [],_,_=>rfl
 | f :: fs,i,h=>by
  rw [tagAt,if_neg (h f (by simp))]
  exact tagAt_none fun g hg=>h g (by simp [hg])
theorem tagX_none {fs:List Fld} {k:Nat} (h:∀ f∈fs,f.tag≠k):tagX fs k=none:=tagAt_none h
theorem tag_known {fs:List Fld} {k:Nat} (h:knownS fs≤k):∀ f∈fs,f.tag≠k:=by
 have:∀ (fs:List Fld) (n:Nat),n≤fs.foldl (fun n f=>if 0≤f.tag then max n (f.tag.toNat+1) else n) n∧∀ f∈fs,0≤f.tag→f.tag.toNat+1≤fs.foldl (fun n f=>if 0≤f.tag then max n (f.tag.toNat+1) else n) n:=by
  intro fs
  induction fs with
  | nil=>intro n;exact ⟨Nat.le_refl _,fun f h=>by cases h⟩
  | cons f fs ih =>
   intro n
   rw [List.foldl_cons]
   obtain ⟨h1,h2⟩:=ih (if 0≤f.tag then max n (f.tag.toNat+1) else n)
   refine ⟨?_,fun g hg h0 => ?_⟩
   ·refine Nat.le_trans ?_ h1
    split<;>omega
   ·rcases List.mem_cons.1 hg with rfl|hg
    ·rw [if_pos h0] at h1 ⊢
     omega
    ·exact h2 g hg h0
 intro f hf e
 have h2:=(this fs 0).2 f hf (by omega)
 have h3:fs.foldl (fun n f=>if 0≤f.tag then max n (f.tag.toNat+1) else n) 0≤k:=h
 omega

section
variable (pt : List Fld→St→Tree × St) (v:Int) (flex:Bool) (fs:List Fld)
def rdTg : Nat→List Tree→List TagD→St→(List Tree × List TagD) × St
 | 0,xs,u,st=>((xs,u),st)
 | n+1,xs,u,st =>
  match tagX fs (rdUv st).1 with
  | some p =>
   if (rdF pt v flex p.2 (some (rdSpan (rdUv (rdUv st).2).1 (rdUv (rdUv st).2).2).1)).2=none then ((xs,u),none)
   else rdTg n (xs.set p.1 (rdF pt v flex p.2 (some (rdSpan (rdUv (rdUv st).2).1 (rdUv (rdUv st).2).2).1)).1) u (rdSpan (rdUv (rdUv st).2).1 (rdUv (rdUv st).2).2).2
  | none=>rdTg n xs (rdTag u st).1 (rdTag u st).2
def rdTgs (xs:List Tree) (st:St):(List Tree × List TagD) × St:=rdTg pt v flex fs (rdUv st).1 xs [] (rdUv st).2
end
def rdM (d:Nat) (v:Int) (flex:Bool) (fs:List Fld) (st:St):Tree × St :=
 if flex=true then
  (.mk 0 [] false (rdTgs (rdP d v true) v true fs (rdL (rdP d v true) (dfP d) v true fs st).1 (rdL (rdP d v true) (dfP d) v true fs st).2).1.1 (rdTgs (rdP d v true) v true fs (rdL (rdP d v true) (dfP d) v true fs st).1 (rdL (rdP d v true) (dfP d) v true fs st).2).1.2,
   (rdTgs (rdP d v true) v true fs (rdL (rdP d v true) (dfP d) v true fs st).1 (rdL (rdP d v true) (dfP d) v true fs st).2).2)
 else rdP (d+1) v false fs st
theorem rdM_t {d:Nat} {v:Int} {fs:List Fld} {st s' e:St} {xs ys:List Tree} {u:List TagD} (h:rdL (rdP d v true) (dfP d) v true fs st=(xs,s')) (hg:rdTgs (rdP d v true) v true fs xs s'=((ys,u),e)):rdM d v true fs st=(.mk 0 [] false ys u,e):=by
 unfold rdM
 rw [if_pos rfl,h]
 simp only [hg]
theorem rdM_f {d:Nat} {v:Int} {fs:List Fld} {st:St}:rdM d v false fs st=rdP (d+1) v false fs st:=by
 unfold rdM;rw [if_neg (by decide)]
theorem rdM_bad {d:Nat} {v:Int} {flex:Bool} {fs:List Fld} {st:St} (h:(rdL (rdP d v flex) (dfP d) v flex fs st).2=none):(rdM d v flex fs st).2=none:=by
 cases flex with
 | false=>rw [rdM_f];exact rdP_bad h
 | true =>
  unfold rdM
  rw [if_pos rfl]
  simp only [h]
  rfl
theorem rdM_badT {d:Nat} {v:Int} {fs:List Fld} {st s':St} {xs:List Tree} (h:rdL (rdP d v true) (dfP d) v true fs st=(xs,s')) (hb:(rdTgs (rdP d v true) v true fs xs s').2=none):(rdM d v true fs st).2=none:=by
 unfold rdM
 rw [if_pos rfl,h]
 exact hb
section
variable {pt : List Fld→St→Tree × St} {v:Int} {flex:Bool} {fs:List Fld} {xs:List Tree} {u:List TagD} {st:St} {n k i:Nat} {f:Fld}
theorem rdTg_known {x:Tree} {s':St} (hk:(rdUv st).1=k) (h:tagX fs k=some (i,f)) (hx:rdF pt v flex f (some (rdSpan (rdUv (rdUv st).2).1 (rdUv (rdUv st).2).2).1)=(x,s')) (hs:s'≠none) :
  rdTg pt v flex fs (n+1) xs u st=rdTg pt v flex fs n (xs.set i x) u (rdSpan (rdUv (rdUv st).2).1 (rdUv (rdUv st).2).2).2:=by
 rw [rdTg,hk,h]
 simp only [hx]
 rw [if_neg hs]
theorem rdTg_bad (hk:(rdUv st).1=k) (h:tagX fs k=some (i,f)) (hx:(rdF pt v flex f (some (rdSpan (rdUv (rdUv st).2).1 (rdUv (rdUv st).2).2).1)).2=none) :
  (rdTg pt v flex fs (n+1) xs u st).2=none:=by
 rw [rdTg,hk,h]
 simp only
 rw [if_pos hx]
theorem rdTg_unk (h:tagX fs (rdUv st).1=none):rdTg pt v flex fs (n+1) xs u st=rdTg pt v flex fs n xs (tagPut u ((rdUv st).1,(rdSpan (rdUv (rdUv st).2).1 (rdUv (rdUv st).2).2).1)) (rdSpan (rdUv (rdUv st).2).1 (rdUv (rdUv st).2).2).2:=by
 rw [rdTg,h]
 rfl
theorem rdTg_one {x:Tree} {o r:List UInt8} (h:tagX fs k=some (i,f)) (hk:k < 4294967296) (ho:o.length < 4294967296) (hx:rdF pt v flex f (some o)=(x,some [])) :
  rdTg pt v flex fs (n+1) xs u (some (oneTag (k,o)++r))=rdTg pt v flex fs n (xs.set i x) u (some r):=by
 have e:oneTag (k,o)++r=uvarS k++(uvarS o.length++(o++r)):=by simp [oneTag]
 have h1:rdUv (some (oneTag (k,o)++r))=(k,some (uvarS o.length++(o++r))):=by rw [e,rdUv_uvar _ _ hk]
 have h2:rdUv (some (uvarS o.length++(o++r)))=(o.length,some (o++r)):=rdUv_uvar _ _ ho
 have h3:rdSpan ((rdUv (rdUv (some (oneTag (k,o)++r))).2).1:Nat) (rdUv (rdUv (some (oneTag (k,o)++r))).2).2=(o,some r):=by
  rw [h1];simp only [h2];exact rdSpan_app o r
 rw [rdTg_known (k:=k) (x:=x) (s':=some []) (by rw [h1]) h (by rw [h3];exact hx) (by simp),h3]
theorem rdTg_unks : ∀ (l acc:List TagD) (r:List UInt8),(∀ x∈l,tagX fs x.1=none)→(∀ x∈l,x.1 < 4294967296)→(∀ x∈l,∀ y∈acc,y.1≠x.1)→l.Pairwise (fun a b=>a.1≠b.1) →
  rdTg pt v flex fs l.length xs acc (some (l.flatMap unkT++r))=((xs,acc++l.map fun u=>(u.1,wholeS u.2)),some r)
 | [],acc,r,_,_,_,_=>by simp [rdTg]
 | x :: l,acc,r,h0,h1,h2,h3=>by
  rw [List.length_cons,List.flatMap_cons,List.append_assoc]
  have hu:(rdUv (some (unkT x++(l.flatMap unkT++r)))).1=x.1:=by
   have e:unkT x++(l.flatMap unkT++r)=uvarS x.1++(uvarS (wholeS x.2).length++(wholeS x.2++(l.flatMap unkT++r))):=by simp [unkT,oneTag]
   rw [e,rdUv_uvar _ _ (h1 x (by simp))]
  rw [rdTg,hu,h0 x (by simp)]
  simp only
  rw [rdTag_unk acc x _ (h1 x (by simp))]
  have hn:tagPut acc (x.1,wholeS x.2)=acc++[(x.1,wholeS x.2)]:=tagPut_new fun z hz=>h2 x (by simp) z hz
  simp only [hn]
  rw [List.pairwise_cons] at h3
  rw [rdTg_unks l _ r (fun y hy=>h0 y (by simp [hy])) (fun y hy=>h1 y (by simp [hy])) (fun y hy z hz=>by
   rcases List.mem_append.1 hz with hz|hz
   ·exact h2 y (by simp [hy]) z hz
   ·simp only [List.mem_singleton] at hz;rw [hz];exact h3.1 y hy) h3.2]
  simp
end

/-! ### What was written is read again -/
def tgO (pw:List Fld→Int→Bool→Tree→List UInt8) (D:Nat) (v:Int) (flex:Bool) (t:Tree) (p:Nat × Nat × Fld):List TagD:=if usualS D p.2.2 (t.at p.2.1)=false then [(p.1,fieldS pw p.2.2 v flex (t.at p.2.1))] else []
def setT (pc:List Fld→Tree→Tree) (D:Nat) (v:Int) (t:Tree) (ts:List (Nat × Nat × Fld)) (xs:List Tree):List Tree:=ts.foldl (fun xs p=>if usualS D p.2.2 (t.at p.2.1)=false then xs.set p.2.1 (cnF pc v p.2.2 (t.at p.2.1)) else xs) xs
theorem rdTg_tags {pr:List Fld→St→Tree × St} {pw:List Fld→Int→Bool→Tree→List UInt8} {pc:List Fld→Tree→Tree} {D:Nat} {v:Int} {flex:Bool} {fs:List Fld} {t:Tree}:∀ (ts:List (Nat × Nat × Fld)) (n:Nat) (xs:List Tree) (u:List TagD) (r:List UInt8),
  (∀ p∈ts,tagX fs p.1=some p.2∧p.1 < 4294967296∧(fieldS pw p.2.2 v flex (t.at p.2.1)).length < 4294967296∧rdF pr v flex p.2.2 (some (fieldS pw p.2.2 v flex (t.at p.2.1)))=(cnF pc v p.2.2 (t.at p.2.1),some [])) →
  rdTg pr v flex fs ((ts.flatMap (tgO pw D v flex t)).length+n) xs u (some ((ts.flatMap (tgO pw D v flex t)).flatMap oneTag++r))=rdTg pr v flex fs n (setT pc D v t ts xs) u (some r)
 | [],n,xs,u,r,_=>by simp [setT]
 | p :: ts,n,xs,u,r,h=>by
  obtain ⟨h1,h2,h3,h4⟩:=h p (by simp)
  have ih:=fun xs=>rdTg_tags (pr:=pr) (pw:=pw) (pc:=pc) (D:=D) ts n xs u r fun q hq=>h q (by simp [hq])
  rw [List.flatMap_cons]
  by_cases hu:usualS D p.2.2 (t.at p.2.1)=false
  ·have e:tgO pw D v flex t p=[(p.1,fieldS pw p.2.2 v flex (t.at p.2.1))]:=by unfold tgO;rw [if_pos hu]
   rw [e,List.length_append,List.flatMap_append,List.append_assoc]
   simp only [List.length_cons,List.length_nil,List.flatMap_cons,List.flatMap_nil,List.append_nil]
   rw [show 0+1+(ts.flatMap (tgO pw D v flex t)).length+n=((ts.flatMap (tgO pw D v flex t)).length+n)+1 by omega]
   rw [rdTg_one h1 h2 h3 h4,ih]
   simp only [setT,List.foldl_cons]
   rw [if_pos hu]
  ·have e:tgO pw D v flex t p=[]:=by unfold tgO;rw [if_neg hu]
   rw [e,List.nil_append,ih]
   simp only [setT,List.foldl_cons]
   rw [if_neg hu]

def cnT (pt:List Fld→Tree→Tree) (dp:List Fld→Tree) (D:Nat) (v:Int) (flex:Bool) (t:Tree):List Fld→Nat→List Tree
 | [],_=>[]
 | f :: fs,i=>(if liveS D v flex f (t.at i)=true then cnF pt v f (t.at i) else dfF dp f) :: cnT pt dp D v flex t fs (i+1)
def cnM (d:Nat) (v:Int) (flex:Bool) (fs:List Fld) (t:Tree):Tree:=.mk 0 [] false (cnT (cnP d v flex) (dfP d) (d+1) v flex t fs 0) (if flex=true then (unknownS fs t.u).map fun u=>(u.1,wholeS u.2) else [])
theorem cnT_get (pc:List Fld→Tree→Tree) (dp:List Fld→Tree) (D:Nat) (v:Int) (flex:Bool) (t:Tree):∀ (fs:List Fld) (i k:Nat) (h:k < fs.length),(cnT pc dp D v flex t fs i).getD k .zero=if liveS D v flex fs[k] (t.at (i+k))=true then cnF pc v fs[k] (t.at (i+k)) else dfF dp fs[k]
 | f :: fs,i,0,h=>by simp [cnT]
 | f :: fs,i,k+1,h=>by
  have:=cnT_get pc dp D v flex t fs (i+1) k (by simpa using h)
  simp only [cnT,List.getD_cons_succ,List.getElem_cons_succ]
  rw [this,show i+1+k=i+(k+1) by omega]
theorem cnT_f (pc:List Fld→Tree→Tree) (dp:List Fld→Tree) (D:Nat) (v:Int) (t:Tree):∀ (fs:List Fld) (i:Nat),cnT pc dp D v false t fs i=cnL pc dp v t fs i
 | [],_=>rfl
 | f :: fs,i=>by
  rw [cnT,cnL,cnT_f pc dp D v t fs (i+1)]
  congr 1
  simp [liveS]
def okRT (d:Nat) (v:Int) (flex:Bool) (fs:List Fld):Bool :=
 fs.all fun f=>decide ((f.kind=11∨f.kind=0∨numK f.kind∨(7≤f.kind∧f.kind≤10))∧(f.of=0∨numK f.of∨(7≤f.of∧f.of≤10))∧¬ (f.kind=10∧0≤f.null)) && okR d v flex f.sub && (wideS v flex f.sub || !(hasS f v) || decide (¬ (f.kind=10∨(f.kind=11∧f.of=10)))) && (decide (f.tag < 0) || wideS v flex f.sub || decide (¬ (f.kind=10∨(f.kind=11∧f.of=10))))
theorem okRT_el {d:Nat} {v:Int} {flex:Bool} {fs:List Fld} (h:okRT d v flex fs=true) {f:Fld} (hf:f∈fs) :
  (f.kind=11∨f.kind=0∨numK f.kind∨(7≤f.kind∧f.kind≤10))∧(f.of=0∨numK f.of∨(7≤f.of∧f.of≤10))∧¬ (f.kind=10∧0≤f.null)∧okR d v flex f.sub=true∧(hasS f v=true∨0≤f.tag→(f.kind=10∨(f.kind=11∧f.of=10))→wideS v flex f.sub=true):=by
 simp only [okRT,List.all_eq_true] at h
 have:=h f hf
 rw [Bool.and_eq_true,Bool.and_eq_true,Bool.and_eq_true,decide_eq_true_eq] at this
 obtain ⟨⟨⟨⟨h2,h3,h4⟩,h5⟩,h6⟩,h7⟩:=this
 refine ⟨h2,h3,h4,h5,fun h8 h9 => ?_⟩
 simp only [Bool.or_eq_true,decide_eq_true_eq,Bool.not_eq_true'] at h6 h7
 rcases h8 with h8|h8
 ·rcases h6 with (h6|h6)|h6
  ·exact h6
  ·rw [h8] at h6;cases h6
  ·exact absurd h9 h6
 ·rcases h7 with (h7|h7)|h7
  ·omega
  ·exact h7
  ·exact absurd h9 h7
theorem rdF_partT {d:Nat} {v:Int} {flex:Bool} {fs:List Fld} {N:Nat} {t:Tree} (h:okRT d v flex fs=true) (hs:Sized N t) {f:Fld} (hf:f∈fs) (hh:hasS f v=true∨0≤f.tag) (i:Nat) (r:List UInt8) :
  rdF (rdP (d+1) v flex) v flex f (some (fieldS (partS (d+1)) f v flex (t.at i)++r))=(cnF (cnP (d+1) v flex) v f (t.at i),some r):=by
 obtain ⟨g2,g3,g4,g5,g6⟩:=okRT_el h hf
 have sub:∀ x,(f.kind=10∧x=t.at i)∨(f.kind=11∧f.of=10∧x∈(t.at i).l)→∃ M,Sized M x:=by
  intro x hx
  have ha:=hs.at i
  rcases hx with ⟨_,rfl⟩|⟨_,_,hx⟩
  ·exact ⟨_,ha⟩
  ·obtain ⟨k,hk,rfl⟩:=List.getElem_of_mem hx
   exact ha.el hk
 refine rdF_field f (t.at i) r g2 g3 g4 (fun x hx r => ?_) (fun h11 h10 x hx => ?_)
 ·obtain ⟨M,hM⟩:=sub x hx
  exact (rdP_part v flex d f.sub M x g5 hM).1 r
 ·obtain ⟨M,hM⟩:=sub x (.inr ⟨h11,h10,hx⟩)
  exact (rdP_part v flex d f.sub M x g5 hM).2 (g6 hh (.inr ⟨h11,h10⟩))
theorem rdM_part {d:Nat} {v:Int} {flex:Bool} {fs:List Fld} {N:Nat} {t:Tree} (h:okRT d v flex fs=true) (hs:Sized N t) (ts:List (Nat × Nat × Fld))
  (hts:tagsS (partS (d+1)) (d+2) fs v true t=ts.flatMap (tgO (partS (d+1)) (d+2) v true t)) (hset:setT (cnP (d+1) v true) (d+2) v t ts (cnL (cnP (d+1) v true) (dfP (d+1)) v t fs 0)=cnT (cnP (d+1) v true) (dfP (d+1)) (d+2) v true t fs 0)
  (htf:∀ p∈ts,tagX fs p.1=some p.2∧p.1 < 4294967296∧p.2.2∈fs∧0≤p.2.2.tag∧(fieldS (partS (d+1)) p.2.2 v true (t.at p.2.1)).length < 4294967296) (hl:ts.length≤1000) :
  rdM (d+1) v flex fs (some (partS (d+2) fs v flex t))=(cnM (d+1) v flex fs t,some []):=by
 have hu:∀ x∈t.u,x.1 < 4294967296:=by
  cases hs with
  | mk ns hl he hk hN=>exact hk
 have hp:=fun r=>rdL_plain (pr:=rdP (d+1) v flex) (pw:=partS (d+1)) (pc:=cnP (d+1) v flex) (flex:=flex) (dfP (d+1)) t fs 0 r fun f hf hh i r=>rdF_partT h hs hf (.inl hh) i r
 rw [partS_eq]
 unfold partT
 rw [plainS_L]
 cases flex with
 | false =>
  rw [if_neg (by decide),rdM_f,rdP,if_neg (by decide)]
  have:=hp []
  rw [List.append_nil] at this
  rw [this]
  unfold cnM
  rw [cnT_f,if_neg (by decide)]
 | true =>
  rw [if_pos rfl,hts]
  have hun:=unknownS_spec fs t.u
  have hul:=unknownS_len' fs t.u
  have htl:(ts.flatMap (tgO (partS (d+1)) (d+2) v true t)).length≤ts.length:=by
   have:∀ l:List (Nat × Nat × Fld),(l.flatMap (tgO (partS (d+1)) (d+2) v true t)).length≤l.length:=by
    intro l
    induction l with
    | nil=>simp
    | cons p l ih =>
     rw [List.flatMap_cons,List.length_append,List.length_cons]
     have:(tgO (partS (d+1)) (d+2) v true t p).length≤1:=by unfold tgO;split<;>simp
     omega
   exact this ts
  refine rdM_t (hp _) ?_
  unfold rdTgs
  rw [rdUv_uvar _ _ (by omega)]
  simp only
  rw [rdTg_tags (pr:=rdP (d+1) v true) (pc:=cnP (d+1) v true) ts _ _ _ _ fun p hp => ?_]
  ·rw [hset]
   have:=rdTg_unks (pt:=rdP (d+1) v true) (v:=v) (flex:=true) (fs:=fs) (xs:=cnT (cnP (d+1) v true) (dfP (d+1)) (d+2) v true t fs 0) (unknownS fs t.u) [] [] (fun x hx=>tagX_none (tag_known (hun.2 x hx).2)) (fun x hx=>hu x (hun.2 x hx).1) (fun _ _ _ h=>by cases h) (hun.1.imp fun h=>by omega)
   rw [List.append_nil,List.nil_append] at this
   rw [this]
   simp
  ·obtain ⟨h1,h2,h3,h4,h5⟩:=htf p hp
   have h6:=rdF_partT h hs h3 (.inr h4) p.2.1 []
   rw [List.append_nil] at h6
   exact ⟨h1,h2,h5,h6⟩
theorem cnT_all3 {R:Fld→Tree→Prop} {pc:List Fld→Tree→Tree} {dp:List Fld→Tree} {D:Nat} {v:Int} {flex:Bool} {t:Tree}:∀ (fs:List Fld) (i:Nat),(∀ f∈fs,(∀ x,R f (cnF pc v f x))∧R f (dfF dp f))→All3 R fs (cnT pc dp D v flex t fs i)
 | [],_,_=>.nil
 | f :: fs,i,h=>.cons (by split;exact (h f (by simp)).1 _;exact (h f (by simp)).2) (cnT_all3 fs (i+1) fun g hg=>h g (by simp [hg]))
theorem cnM_good (v:Int) (flex:Bool) (d:Nat) (fs:List Fld) (t:Tree) (h:okDf (d+1) fs=true):GoodP (d+1) fs (cnM d v flex fs t):=by
 refine ⟨?_,(cnP_good v flex (d+1) fs t h).2⟩
 ·have:=goodL_of (G:=GoodP d) (n:=0) (s:=[]) (nl:=false) (u:=if flex=true then (unknownS fs t.u).map fun u=>(u.1,wholeS u.2) else []) [] (cnT_all3 (R:=GoodF (GoodP d)) (pc:=cnP d v flex) (dp:=dfP d) (D:=d+1) (v:=v) (flex:=flex) (t:=t) fs 0 fun f hf=>by
   obtain ⟨h4,hs⟩:=okDf_f h hf
   exact ⟨fun x=>cnF_good f x fun hk y=>cnP_good v flex d f.sub y (hs hk),dfF_good (fun hk=>⟨dfP_good d f.sub (hs (.inl hk)),(dfP_sn d f.sub).1⟩) h4⟩)
  exact this
theorem told_cnM (v:Int) (flex:Bool) (d:Nat) (fs:List Fld) (t:Tree) (h:okRT d v flex fs=true) (hT:okTs (d+1) fs=true) (hN:N64 t):ToldP (d+2) v flex fs t (tlP (d+2) fs (cnM (d+1) v flex fs t)):=by
 refine ⟨tlL_len _ _ _ _,?_,fun i hi => ?_⟩
 ·show sortT (if flex=true then (unknownS fs t.u).map fun u=>(u.1,wholeS u.2) else [])=_
  refine sortT_rising ?_
  split
  ·exact List.pairwise_map.2 (unknownS_spec fs t.u).1
  ·exact List.Pairwise.nil
 obtain ⟨g2,g3,g4,g5,g6⟩:=okRT_el h (List.getElem_mem hi)
 simp only [okTs,okT,Bool.and_eq_true,List.all_eq_true,decide_eq_true_eq] at hT
 have e:(tlP (d+2) fs (cnM (d+1) v flex fs t)).at i=tlF (tlP (d+1)) fs[i] (if liveS (d+2) v flex fs[i] (t.at i)=true then cnF (cnP (d+1) v flex) v fs[i] (t.at i) else dfF (dfP (d+1)) fs[i]):=by
  rw [tlP,Tree.at_mk,tlL_get _ _ fs 0 i hi,Nat.zero_add]
  congr 1
  have:=cnT_get (cnP (d+1) v flex) (dfP (d+1)) (d+2) v flex t fs 0 i hi
  rw [Nat.zero_add] at this
  exact this
 rw [e]
 by_cases hh:liveS (d+2) v flex fs[i] (t.at i)=true
 ·rw [if_pos hh,if_pos hh]
  refine tlF_told (d:=d+1) (v:=v) (flex:=flex) _ fs[i] (t.at i) (hN.at i) g2 g3 g4 (hT.1 _ (List.getElem_mem hi)) fun y hy=>told_cn v flex d fs[i].sub y g5 (hT.2 _ (List.getElem_mem hi)) hy
 ·rw [if_neg hh,if_neg hh]
  exact tlF_df _ _ g2 g4 (df_told v flex d fs[i].sub g5)
def LoopT (l:List (Nat × Value)) (ri:Nat) (I:Nat→World→Prop) (ρ:Regs) (w:World):Prop:=Holds l ρ∧∃ j:Nat,ρ ri = .int .u32 j∧I j w
theorem rdL_tg {pt:List Fld→St→Tree × St} {dp:List Fld→Tree} {v:Int} {flex:Bool} {f:Fld} {fs:List Fld} {s:St} (h:0≤f.tag):rdL pt dp v flex (f :: fs) s=(dfF dp f :: (rdL pt dp v flex fs s).1,(rdL pt dp v flex fs s).2):=by
 rw [rdL,if_neg (fun h'=>by omega)]
theorem errV_some {ev:Value} {st:St} (h:st≠none):errV ev st = .nilIface:=by
 unfold errV
 cases st with
 | none=>exact absurd rfl h
 | some x=>rfl
def tagOnce (fs:List Fld):Nat→List Nat→St→Prop
 | 0,_,_=>True
 | n+1,ks,st=>(tagX fs (rdUv st).1≠none→(rdUv st).1∉ks)∧tagOnce fs n ((rdUv st).1 :: ks) (rdSpan (rdUv (rdUv st).2).1 (rdUv (rdUv st).2).2).2
def onceM (d:Nat) (v:Int) (fs:List Fld) (st:St):Prop:=∀ xs s',rdL (rdP d v true) (dfP d) v true fs st=(xs,s')→tagOnce fs (rdUv s').1 [] (rdUv s').2
theorem tag_read {k:Nat} {o r:List UInt8} (hk:k < 4294967296) (ho:o.length < 4294967296) :
  (rdUv (some (oneTag (k,o)++r))).1=k∧rdSpan ((rdUv (rdUv (some (oneTag (k,o)++r))).2).1:Nat) (rdUv (rdUv (some (oneTag (k,o)++r))).2).2=(o,some r):=by
 have e:oneTag (k,o)++r=uvarS k++(uvarS o.length++(o++r)):=by simp [oneTag]
 have h1:rdUv (some (oneTag (k,o)++r))=(k,some (uvarS o.length++(o++r))):=by rw [e,rdUv_uvar _ _ hk]
 have h2:rdUv (some (uvarS o.length++(o++r)))=(o.length,some (o++r)):=rdUv_uvar _ _ ho
 rw [h1]
 simp only [h2]
 exact ⟨trivial,rdSpan_app o r⟩
theorem once_unks {fs:List Fld}:∀ (l:List TagD) (ks:List Nat) (r:List UInt8),(∀ x∈l,tagX fs x.1=none)→(∀ x∈l,x.1 < 4294967296)→tagOnce fs l.length ks (some (l.flatMap unkT++r))
 | [],_,_,_,_=>trivial
 | x :: l,ks,r,h0,h1=>by
  have hw:=wholeS_len x.2
  obtain ⟨e1,e2⟩:=tag_read (k:=x.1) (o:=wholeS x.2) (r:=l.flatMap unkT++r) (h1 x (by simp)) (by omega)
  rw [List.length_cons,List.flatMap_cons,List.append_assoc]
  rw [show unkT x=oneTag (x.1,wholeS x.2) from rfl]
  refine ⟨fun h=>absurd (by rw [e1];exact h0 x (by simp)) h,?_⟩
  rw [e2]
  exact once_unks l _ r (fun y hy=>h0 y (by simp [hy])) (fun y hy=>h1 y (by simp [hy]))
theorem once_tags {pw:List Fld→Int→Bool→Tree→List UInt8} {D:Nat} {v:Int} {flex:Bool} {fs:List Fld} {t:Tree} {n:Nat} {r:List UInt8} (hr:∀ ks,tagOnce fs n ks (some r)):∀ (ts:List (Nat × Nat × Fld)) (ks:List Nat),
  (∀ p∈ts,p.1 < 4294967296∧(fieldS pw p.2.2 v flex (t.at p.2.1)).length < 4294967296)→(∀ p∈ts,p.1∉ks)→ts.Pairwise (fun a b=>a.1≠b.1) →
  tagOnce fs ((ts.flatMap (tgO pw D v flex t)).length+n) ks (some ((ts.flatMap (tgO pw D v flex t)).flatMap oneTag++r))
 | [],ks,_,_,_=>by simpa using hr ks
 | p :: ts,ks,h,hks,hp=>by
  rw [List.pairwise_cons] at hp
  obtain ⟨h1,h2⟩:=h p (by simp)
  rw [List.flatMap_cons]
  by_cases hu:usualS D p.2.2 (t.at p.2.1)=false
  ·have e:tgO pw D v flex t p=[(p.1,fieldS pw p.2.2 v flex (t.at p.2.1))]:=by unfold tgO;rw [if_pos hu]
   obtain ⟨e1,e2⟩:=tag_read (r:=(ts.flatMap (tgO pw D v flex t)).flatMap oneTag++r) h1 h2
   rw [e,List.length_append,List.flatMap_append,List.append_assoc]
   simp only [List.length_cons,List.length_nil,List.flatMap_cons,List.flatMap_nil,List.append_nil]
   rw [show 0+1+(ts.flatMap (tgO pw D v flex t)).length+n=((ts.flatMap (tgO pw D v flex t)).length+n)+1 by omega]
   refine ⟨fun _=>by rw [e1];exact hks p (by simp),?_⟩
   rw [e1,e2]
   refine once_tags hr ts _ (fun q hq=>h q (by simp [hq])) (fun q hq hm => ?_) hp.2
   rcases List.mem_cons.1 hm with hm|hm
   ·exact hp.1 q hq hm.symm
   ·exact hks q (by simp [hq]) hm
  ·have e:tgO pw D v flex t p=[]:=by unfold tgO;rw [if_neg hu]
   rw [e,List.nil_append]
   exact once_tags hr ts ks (fun q hq=>h q (by simp [hq])) (fun q hq=>hks q (by simp [hq])) hp.2
theorem onceM_part {d:Nat} {v:Int} {fs:List Fld} {N:Nat} {t:Tree} (h:okRT d v true fs=true) (hs:Sized N t) (ts:List (Nat × Nat × Fld))
  (hts:tagsS (partS (d+1)) (d+2) fs v true t=ts.flatMap (tgO (partS (d+1)) (d+2) v true t)) (htf:∀ p∈ts,p.1 < 4294967296∧(fieldS (partS (d+1)) p.2.2 v true (t.at p.2.1)).length < 4294967296) (hp:ts.Pairwise (fun a b=>a.1≠b.1)) (hl:ts.length≤1000) :
  onceM (d+1) v fs (some (partS (d+2) fs v true t)):=by
 have hu:∀ x∈t.u,x.1 < 4294967296:=by
  cases hs with
  | mk ns hl he hk hN=>exact hk
 have hpl:=fun r=>rdL_plain (pr:=rdP (d+1) v true) (pw:=partS (d+1)) (pc:=cnP (d+1) v true) (flex:=true) (dfP (d+1)) t fs 0 r fun f hf hh i r=>rdF_partT h hs hf (.inl hh) i r
 intro xs s' hr
 rw [partS_eq] at hr
 unfold partT at hr
 rw [plainS_L,if_pos rfl,hts,hpl] at hr
 obtain ⟨-,rfl⟩:=Prod.mk.inj hr
 have hun:=unknownS_spec fs t.u
 have hul:=unknownS_len' fs t.u
 have htl:(ts.flatMap (tgO (partS (d+1)) (d+2) v true t)).length≤ts.length:=by
  have:∀ l:List (Nat × Nat × Fld),(l.flatMap (tgO (partS (d+1)) (d+2) v true t)).length≤l.length:=by
   intro l
   induction l with
   | nil=>simp
   | cons p l ih =>
    rw [List.flatMap_cons,List.length_append,List.length_cons]
    have:(tgO (partS (d+1)) (d+2) v true t p).length≤1:=by unfold tgO;split<;>simp
    omega
  exact this ts
 rw [rdUv_uvar _ _ (by omega)]
 refine once_tags (fun ks => ?_) ts [] htf (fun _ _ h=>by cases h) hp
 have:=once_unks (fs:=fs) (unknownS fs t.u) ks [] (fun x hx=>tagX_none (tag_known (hun.2 x hx).2)) (fun x hx=>hu x (hun.2 x hx).1)
 rw [List.append_nil] at this
 exact this
theorem partM_bound {d:Nat} {v:Int} {flex:Bool} {fs:List Fld} {N:Nat} {t:Tree} (hsub:∀ f∈fs,okM d f.sub=true) (hs:Sized N t) (ts:List (Nat × Nat × Fld))
  (hts:tagsS (partS (d+1)) (d+2) fs v true t=ts.flatMap (tgO (partS (d+1)) (d+2) v true t)) (htf:∀ p∈ts,p.1 < 4294967296∧p.2.2∈fs∧(fieldS (partS (d+1)) p.2.2 v true (t.at p.2.1)).length < 4294967296) (hl:ts.length≤1000) :
  (partS (d+2) fs v flex t).length≤(cst (d+2) fs+(ts.map fun p=>2 * cst (d+1) p.2.2.sub+60).sum) * (N+1):=by
 have hu:(t.u.map fun x=>x.2.length+1).sum≤N∧∀ x∈t.u,x.1 < 4294967296:=by
  cases hs with
  | mk ns hl he hk hN=>exact ⟨by simp only [Tree.u];omega,hk⟩
 have h1:=tags_bound fs t.u hu.2
 have h2:=unknownS_len' fs t.u
 have hf:∀ f∈fs,∀ flex i,(fieldS (partS (d+1)) f v flex (t.at i)).length≤(2 * cst (d+1) f.sub+40) * (N+1):=fun f hf flex i =>
  fieldS_bound (C:=cst (d+1) f.sub) (fun M x hx=>partS_bound v flex d f.sub M x (hsub f hf) hx) f rfl (hs.at i)
 have hplain:∀ (l:List Fld) (i:Nat),(∀ f∈l,f∈fs)→((l.zipIdx i).flatMap (plainF (partS (d+1)) v flex t)).length≤(l.map fun f=>2 * cst (d+1) f.sub+40).sum * (N+1):=by
  intro l
  induction l with
  | nil=>intro i _;simp
  | cons f l ihl =>
   intro i hm
   have g1:=ihl (i+1) fun g hg=>hm g (by simp [hg])
   have g2:(plainF (partS (d+1)) v flex t (f,i)).length≤(2 * cst (d+1) f.sub+40) * (N+1):=by
    unfold plainF
    split
    ·exact hf f (hm f (by simp)) flex i
    ·simp
   simp only [List.zipIdx_cons,List.flatMap_cons,List.length_append,List.map_cons,List.sum_cons,Nat.add_mul] at g1 g2 ⊢
   omega
 have g:=hplain fs 0 fun f hf=>hf
 have htags:∀ l:List (Nat × Nat × Fld),(∀ p∈l,p∈ts)→((l.flatMap (tgO (partS (d+1)) (d+2) v true t)).flatMap oneTag).length≤(l.map fun p=>2 * cst (d+1) p.2.2.sub+60).sum * (N+1):=by
  intro l
  induction l with
  | nil=>intro _;simp
  | cons p l ihl =>
   intro hm
   have g1:=ihl fun q hq=>hm q (by simp [hq])
   obtain ⟨h3,h4,h5⟩:=htf p (hm p (by simp))
   have h6:=hf p.2.2 h4 true p.2.1
   have g2:((tgO (partS (d+1)) (d+2) v true t p).flatMap oneTag).length≤(2 * cst (d+1) p.2.2.sub+60) * (N+1):=by
    have h7:(2 * cst (d+1) p.2.2.sub+60) * (N+1)=(2 * cst (d+1) p.2.2.sub+40) * (N+1)+20 * (N+1):=by rw [← Nat.add_mul]
    rw [h7]
    unfold tgO
    split
    ·have a1:=uvarS_len 9 p.1 (by omega)
     have a2:=uvarS_len 9 (fieldS (partS (d+1)) p.2.2 v true (t.at p.2.1)).length (by omega)
     simp only [List.flatMap_cons,List.flatMap_nil,List.append_nil,oneTag,List.length_append]
     omega
    ·simp
   rw [List.flatMap_cons,List.flatMap_append,List.length_append,List.map_cons,List.sum_cons,Nat.add_mul]
   omega
 have gt:=htags ts fun p hp=>hp
 have htl:(ts.flatMap (tgO (partS (d+1)) (d+2) v true t)).length≤ts.length:=by
  have:∀ l:List (Nat × Nat × Fld),(l.flatMap (tgO (partS (d+1)) (d+2) v true t)).length≤l.length:=by
   intro l
   induction l with
   | nil=>simp
   | cons p l ih =>
    rw [List.flatMap_cons,List.length_append,List.length_cons]
    have:(tgO (partS (d+1)) (d+2) v true t p).length≤1:=by unfold tgO;split<;>simp
    omega
  exact this ts
 have h3:=uvarS_len 9 ((ts.flatMap (tgO (partS (d+1)) (d+2) v true t)).length+(unknownS fs t.u).length) (by omega)
 have e4:plainS (partS (d+1)) fs v flex t=(fs.zipIdx 0).flatMap (plainF (partS (d+1)) v flex t):=rfl
 have e5:cst (d+2) fs=(fs.map fun f=>2 * cst (d+1) f.sub+40).sum+60:=rfl
 rw [partS_eq]
 unfold partT
 rw [e5,Nat.add_mul,Nat.add_mul,e4]
 cases flex with
 | true =>
  rw [if_pos rfl,hts]
  simp only [List.length_append]
  omega
 | false =>
  rw [if_neg (by decide)]
  omega
end Ms

namespace Ms
open Nat renaming reduceEqDiff → n0,reduceAdd → n1,reduceMul → n2,reduceSub → n3,reduceLT → n4,reduceLeDiff → n5
open Int renaming reduceEq → i0,reduceLT → i1,reduceLE → i2,reduceNeg → i3,reduceAdd → i4,reduceSub → i5,reduceMul → i6,reduceToNat → i7
set_option maxRecDepth 8000
open Go Go.Proofs Go.Shelf
attribute [local congr] W_congr WPsq_congr WPp_congr optK_congr addrK_congr intK_congr boolK_congr sliceK_congr tupleK_congr funcK_congr Fn_congr rawK_congr takeK_congr stepK_congr convK_congr aggK_congr

theorem TagsSetX_fn {okT:Blocks} {L vb o:Nat} {x:Blk} {m:Value} {u:List TagD} (w:World) (hG:TagsG okT L w m u) (hL:L≤w.heap.size) (hvL:vb < L) (hb:blk w vb=some x) (hm:x.1[o]? = some m) (hth:thaw x.2.2 o 1=true)
  (y:TagD) (vv:Value) (hval:BytesV (fun b=>okT b∧b < L) w vv y.2) (hy:y.1 < 2 ^ 32) (hnew:∀ z∈u,z.1≠y.1) (hoT:∀ b,okT b→b≠vb) :
  Fn Tryz.prog 81 #[.pointer (some ⟨vb,o,none⟩),.int .u32 y.1,vv] w fun _ w'=>∃ m',blk w' vb=some (x.1.setIfInBounds o (.map m'),x.2)∧TagsG okT L w' (.map m') (u++[y])∧Upd (fun b=>b=vb∨m = .map (some b)) w w'∧(∀ b,m'=some b→m = .map (some b)∨w.heap.size≤b):=by
 have hlt:o < x.1.size:=(Array.getElem?_eq_some_iff.1 hm).1
 rcases hG with ⟨rfl,rfl⟩|⟨r,es,clock,rfl,g2,g3,g4,g5,g6⟩
 ·refine (TagsSet_none w hb hm hth y.1 vv).mono ?_
  rintro _ w' rfl
  have hbl:=blk_lt hb
  have hU1:Upd (fun b=>b=vb∨Value.map none = .map (some b)) w (wr (w.alloc (.map #[] 0)) vb o [.map (some w.heap.size)]):=((Upd.refl _ _).alloc _).wr _ _ (.inr (.inl rfl))
  have hU2:=hU1.setBlock w.heap.size (.map #[{ key:=.int .u32 y.1,val:=vv,born:=0 }] 1) (.inl (Nat.le_refl _))
  have hz:w.heap.size < (wr (w.alloc (.map #[] 0)) vb o [.map (some w.heap.size)]).heap.size:=by rw [size_wr,World.size_alloc];omega
  refine ⟨some w.heap.size,?_,.inr ⟨w.heap.size,_,1,rfl,hL,setBlock_same _ _ _ hz,rfl,fun i h1 h2 => ?_,fun i j h1 h2 _ => ?_⟩,hU2,fun b hb=>.inr (by cases hb;exact Nat.le_refl _)⟩
  ·rw [blk_of_heap (setBlock_ne _ _ _ (by omega)),blk_wr_eq,blk_alloc_old hbl,hb];rfl
  ·simp only [List.nil_append,List.length_cons,List.length_nil] at h1
   obtain rfl:i=0:=by omega
   refine ⟨⟨rfl,hy,hval.keep (hU2.keeps fun b hb hk h => ?_)⟩,Nat.zero_lt_one⟩
   rcases h with h|h
   ·exact hoT b hk.1 h
   ·cases h
  ·have h1':i < 1:=h1
   have h2':j < 1:=h2
   omega
 ·have hKU:=tm_keysU g4 g5
  refine (TagsSet_some w hb hm g3 y.1 vv hKU ?_).mono ?_
  ·intro e he
   obtain ⟨i,hi,rfl⟩:=List.getElem_of_mem he
   simp only [Array.length_toList] at hi
   have:=(g5 i (by omega) hi).1.key
   rw [Array.getElem_toList,this]
   intro h
   simp only [Value.int.injEq,true_and] at h
   exact hnew _ (List.getElem_mem (by omega:i < u.length)) (by omega)
  ·rintro _ w' rfl
   have hU2:Upd (fun b=>b=vb∨Value.map (some r) = .map (some b)) w _:=(Upd.refl _ w).setBlock r (.map (es.push { key:=.int .u32 y.1,val:=vv,born:=clock }) (clock+1)) (.inr (.inr rfl))
   have hkp:Keeps (fun b=>okT b∧b < L) w _:=hU2.keeps fun b hb hk h=>by
    rcases h with h|h
    ·exact hoT b hk.1 h
    ·cases h;have:=hk.2;omega
   have hp:=tagE_push (e:={ key:=.int .u32 y.1,val:=vv,born:=clock }) (y:=y) g4 (fun i h1 h2=>⟨(g5 i h1 h2).1.keep hkp,(g5 i h1 h2).2⟩) ⟨rfl,hy,hval.keep hkp⟩ rfl
   refine ⟨some r,?_,.inr ⟨r,_,clock+1,rfl,g2,setBlock_same _ _ _ (heap_lt g3),hp.1,hp.2,inj_push g6 (fun i h1=>(g5 i (by omega) h1).2) rfl⟩,hU2,fun b hb=>.inl (by cases hb;rfl)⟩
   rw [blk_of_heap (setBlock_ne _ _ _ (by omega)),hb]
   have e:x.1.setIfInBounds o (.map (some r))=x.1:=by
    apply Array.ext_getElem?
    intro k
    rw [Array.getElem?_setIfInBounds]
    split
    ·rename_i h;subst h
     exact hm.symm
    ·rfl
   rw [e]
theorem TagsPutX_fn {okT:Blocks} {L vb o:Nat} {x:Blk} {m:Value} {u:List TagD} (w:World) (hG:TagsG okT L w m u) (hL:L≤w.heap.size) (hvL:vb < L) (hb:blk w vb=some x) (hm:x.1[o]? = some m) (hth:thaw x.2.2 o 1=true)
  (y:TagD) (vv:Value) (hval:BytesV (fun b=>okT b∧b < L) w vv y.2) (hy:y.1 < 2 ^ 32) (hnd:(u.map (·.1)).Nodup) (hoT:∀ b,okT b→b≠vb) :
  Fn Tryz.prog 81 #[.pointer (some ⟨vb,o,none⟩),.int .u32 y.1,vv] w fun _ w'=>∃ m',blk w' vb=some (x.1.setIfInBounds o (.map m'),x.2)∧TagsG okT L w' (.map m') (tagPut u y)∧Upd (fun b=>b=vb∨m = .map (some b)) w w'∧(∀ b,m'=some b→m = .map (some b)∨w.heap.size≤b):=by
 by_cases hnew:∀ z∈u,z.1≠y.1
 ·rw [tagPut_new hnew]
  exact TagsSetX_fn w hG hL hvL hb hm hth y vv hval hy hnew hoT
 ·obtain ⟨z,hz,he⟩:∃ z,z∈u∧z.1=y.1:=by
   apply Classical.byContradiction
   intro hc
   exact hnew fun z hz he=>hc ⟨z,hz,he⟩
  obtain ⟨i,hi,rfl⟩:=List.getElem_of_mem hz
  rw [tagPut_old hi he hnd]
  rcases hG with ⟨rfl,rfl⟩|⟨r,es,clock,rfl,g2,g3,g4,g5,g6⟩
  ·simp at hi
  ·have hKU:=tm_keysU g4 g5
   have hkey:∀ j (hj:j < es.size),es[j].key = .int .u32 y.1→j=i:=by
    intro j hj hk
    have h1:=(g5 j (by omega) hj).1.key
    rw [h1] at hk
    simp only [Value.int.injEq,true_and] at hk
    have hk2:u[j].1=u[i].1:=by rw [he];omega
    have hn2:=List.pairwise_iff_getElem.1 (List.nodup_iff_pairwise_ne.1 hnd)
    rcases Nat.lt_trichotomy i j with h3|h3|h3
    ·have:=hn2 i j (by simpa using hi) (by simp;omega) h3
     simp only [List.getElem_map] at this
     exact absurd hk2.symm this
    ·exact h3.symm
    ·have:=hn2 j i (by simp;omega) (by simpa using hi) h3
     simp only [List.getElem_map] at this
     exact absurd hk2 this
   refine (TagsSet_old (i:=i) w hb hm g3 y.1 vv hKU (by omega) ?_ ?_).mono ?_
   ·rw [(g5 i hi (by omega)).1.key,he]
   ·intro j hj hji hk
    have:=hkey j hj hk
    omega
   ·rintro _ w' rfl
    have hU2:Upd (fun b=>b=vb∨Value.map (some r) = .map (some b)) w _:=(Upd.refl _ w).setBlock r (.map (es.modify i fun e=>{ e with key:=.int .u32 y.1,val:=vv }) clock) (.inr (.inr rfl))
    have hkp:Keeps (fun b=>okT b∧b < L) w _:=hU2.keeps fun b hb hk h=>by
     rcases h with h|h
     ·exact hoT b hk.1 h
     ·cases h;have:=hk.2;omega
    have hp:=tagE_set (i:=i) g4 (fun i h1 h2=>⟨(g5 i h1 h2).1.keep hkp,(g5 i h1 h2).2⟩) hi hy (hval.keep hkp)
    refine ⟨some r,?_,.inr ⟨r,_,clock,rfl,g2,setBlock_same _ _ _ (heap_lt g3),hp.1,hp.2,inj_set (fun _=>rfl) g6⟩,hU2,fun b hb=>.inl (by cases hb;rfl)⟩
    rw [blk_of_heap (setBlock_ne _ _ _ (by
     intro e
     subst e
     have h8:=blk_lt hb
     unfold blk at hb
     rw [g3] at hb
     cases hb)),hb]
    have e:x.1.setIfInBounds o (.map (some r))=x.1:=by
     apply Array.ext_getElem?
     intro k
     rw [Array.getElem?_setIfInBounds]
     split
     ·rename_i h;subst h
      rw [if_pos (Array.getElem?_eq_some_iff.1 hm).1];exact hm.symm
     ·rfl
    rw [e]
end Ms

