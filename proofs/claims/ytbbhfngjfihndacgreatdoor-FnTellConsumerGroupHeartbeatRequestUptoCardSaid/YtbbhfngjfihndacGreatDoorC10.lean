/- A part of the proof: see the last text. -/
import Derived.Test.YtbbhfngjfihndacGreatDoorC03
import Derived.Test.YtbbhfngjfihndacGreatDoorC04
import Derived.Test.YtbbhfngjfihndacGreatDoorC08
import Derived.Test.YtbbhfngjfihndacGreatDoorC09
set_option linter.unusedSimpArgs false
set_option linter.unusedVariables false
namespace Ms
open Go

def numS (k n:Int):Int:=if k=0 then n % 2 else wrapN k n
def DfF (D:List Fld→Tree→Prop) (f:Fld) (x:Tree):Prop :=
 if f.kind=8 then x.null=decide (0≤f.null)∧x.s=[]
 else if f.kind=7 then x.s=uuidS []
 else if f.kind=9∨f.kind=11 then x.s=[]∧x.l=[]
 else if f.kind=10 then (0≤f.null→x.null=true)∧(f.null < 0→D f.sub x)
 else x.n=numS f.kind f.df
def DfP : Nat→List Fld→Tree→Prop
 | 0,_,_=>False
 | d+1,fs,g=>g.u=[]∧∀ i (h:i < fs.length),DfF (DfP d) fs[i] (g.at i)
def Told1 (T:List Fld→Tree→Tree→Prop) (kind:Int) (sub:List Fld) (t g:Tree):Prop :=
 if kind=8∨kind=9 then g.s=wholeS t.s
 else if kind=7 then g.s=uuidS t.s
 else if kind=10 then T sub t g
 else g.n=numS kind t.n
def ToldF (T:List Fld→Tree→Tree→Prop) (v:Int) (f:Fld) (t g:Tree):Prop :=
 ((f.kind=8∨f.kind=10∨mayS f v=true)→g.null=nullS f v t) ∧
 (nullS f v t=false→if f.kind=11 then g.l.length=(thingsS t.l).length∧∀ i (h:i < (thingsS t.l).length),(f.of=8∨f.of=10→(g.at i).null=false)∧Told1 T f.of f.sub (thingsS t.l)[i] (g.at i)
  else Told1 T f.kind f.sub t g)
def liveS (d:Nat) (v:Int) (flex:Bool) (f:Fld) (t:Tree):Bool:=(decide (f.tag < 0) && hasS f v) || (decide (0≤f.tag) && (flex && !(usualS d f t)))
def ToldP : Nat→Int→Bool→List Fld→Tree→Tree→Prop
 | 0,_,_,_,_,_=>False
 | d+1,v,flex,fs,t,g=>g.l.length=fs.length∧g.u=(if flex=true then (unknownS fs t.u).map fun u=>(u.1,wholeS u.2) else []) ∧
  ∀ i (h:i < fs.length),if liveS (d+1) v flex fs[i] (t.at i)=true then ToldF (ToldP d v flex) v fs[i] (t.at i) (g.at i) else DfF (DfP d) fs[i] (g.at i)

/-! ### Rows in memory -/
theorem SlR.litO {α:Type} {ok:Blocks} {w:World} {size b:Nat} {fr:Nat × Nat} {T:TypeId} {R:α→List Value→Prop} {xs:List α} {css:List (List Value)} (hok:ok b) (h:blk w b=some (css.flatten.toArray,T,fr)) (hl:∀ cs∈css,cs.length=size) (ha:All2 R xs css) :
  SlR ok w size R (.slice (some ⟨b,0,none⟩) xs.length xs.length) xs:=by
 refine ⟨css,⟨some ⟨b,0,none⟩,xs.length,by rw [ha.1],by rw [ha.1];exact Nat.le_refl _,hl,.inr ⟨_,rfl,rfl,hok,_,h,fun i hi => ?_⟩⟩,ha⟩
 simp only [Nat.zero_add,List.getElem?_toArray]
theorem All2.one {α β:Type} {R:α→β→Prop} {x:α} {y:β} (h:R x y):All2 R [x] [y] :=
 ⟨rfl,fun i h1 h2=>by
  obtain rfl:i=0:=by simp at h1;exact h1
  exact h⟩
theorem FldsV.one {w:World} {b:Nat} {fr:Nat × Nat} {T:TypeId} {f:Fld} {vs:Value} (h:blk w b=some (#[.int .i64 f.kind,.int .i64 f.fr,.int .i64 f.to,.int .i64 f.null,.int .i64 f.tag,.int .i64 f.df,.int .i64 f.of,vs],T,fr)) (hs:FldsV AnyB w vs f.sub):FldsV AnyB w (.slice (some ⟨b,0,Option.none⟩) 1 1) [f] :=
 SlR.litO (css:=[[.int .i64 f.kind,.int .i64 f.fr,.int .i64 f.to,.int .i64 f.null,.int .i64 f.tag,.int .i64 f.df,.int .i64 f.of,vs]]) trivial h (fun cs hm=>by simp only [List.mem_singleton] at hm;subst hm;rfl) (All2.one (by cases f;exact FldC.intro hs))
theorem TreesV.one {w:World} {b:Nat} {fr:Nat × Nat} {T:TypeId} {x:Tree} {c0 c1 c2 c3 c4:Value} (h:blk w b=some (#[c0,c1,c2,c3,c4],T,fr)) (hx:TreeC AnyB w x [c0,c1,c2,c3,c4]):TreesV AnyB w (.slice (some ⟨b,0,Option.none⟩) 1 1) [x] :=
 SlR.litO (css:=[[c0,c1,c2,c3,c4]]) trivial h (fun cs hm=>by simp only [List.mem_singleton] at hm;subst hm;rfl) (All2.one hx)
theorem wr16 (s:List UInt8):wrArr (List.replicate (16 * 1) (Value.int IntKind.u8 0)).toArray 0 ((s.take 16).map byteV)=((uuidS s).map byteV).toArray:=by
 apply Array.ext_getElem?
 intro k
 rw [wrArr_get]
 unfold uuidS
 simp only [List.size_toArray,List.length_replicate,List.getElem?_toArray,List.length_map,List.length_take,List.map_append,List.map_replicate,Nat.mul_one]
 have hb0:byteV 0=Value.int IntKind.u8 0:=rfl
 rw [hb0]
 simp only [List.getElem?_append,List.length_map,List.length_take,List.getElem?_replicate]
 by_cases h1:k < min 16 s.length
 ·rw [if_pos (by omega),if_pos h1];rfl
 ·rw [if_neg (by omega),if_neg h1]
  by_cases h2:k < 16
  ·rw [if_pos h2,if_pos (by omega)]
  ·rw [if_neg h2,if_neg (by omega)]
theorem OwnE.tags {B:Nat} {w:World} {E:TypeId} {v:Value} {css:List (List Value)} {ts:List TagD} {ok:Blocks} (h:OwnE B w E 2 v css) (ha:All2 (TagC ok w) ts css):TagsV AnyB w v ts :=
 ⟨css,h.sl fun _ _=>trivial,ha.imp fun _ _ h=>h.weaken fun _ _ _=>trivial⟩
theorem W.regO {P:Program} {n id:Nat} {ops:Array Oper} {Q:Exit→Regs→World→Prop} {ρ:Regs} {w:World} (k:Nat) (hf:fitsL n ops.toList=true)
  (h:∀ O DD,O=ops→DD=ops.toList.drop k→WPsq P O (ops.toList.take k++DD) (Q .normal) ρ w):W P n (.region id ops false) Q ρ w:=by
 have:=h ops _ rfl rfl
 rw [List.take_append_drop] at this
 exact W.regR hf this
end Ms

namespace Ms
open Go.World renaming size_alloc → qI
open Ms renaming size_wr → qJ,size_drew → qK,not_noB → qL
open W renaming seqR → qA,seq → qB,regR → qC,condK → qD,block → qE,skip → qF,ret → qG,exit → qH
open Nat renaming reduceEqDiff → n0,reduceAdd → n1,reduceMul → n2,reduceSub → n3,reduceLT → n4,reduceLeDiff → n5
open Int renaming reduceEq → i0,reduceLT → i1,reduceLE → i2,reduceNeg → i3,reduceAdd → i4,reduceSub → i5,reduceMul → i6,reduceToNat → i7
set_option maxRecDepth 8000
set_option maxHeartbeats 24000000
open Go Go.Proofs Go.Shelf
attribute [local congr] W_congr WPsq_congr WPp_congr optK_congr addrK_congr intK_congr boolK_congr sliceK_congr tupleK_congr funcK_congr Fn_congr rawK_congr takeK_congr stepK_congr convK_congr aggK_congr

theorem number_fn (k n:Int) (w:World):Fn Tryz.prog 44 #[.int .i64 k,.int .i64 n] w fun r w'=>r = .int .i64 (numS k n)∧w'=w:=by
 refine fn_of_W Tryz.func44 rfl Tryz.results44 Tryz.ntmps44 rfl ?_
 by_cases h0:k=0
 ·subst h0
  repeat ((first|refine qA rfl ?_|apply qB|refine qC rfl ?_|apply qD|apply qE|apply qF|apply qG|apply qH);try simp (disch:=(first|omega|(simp only [qI,qJ,qK]<;>omega)|exact qL _)) only [go_sem,↓reduceIte,n0,reduceCtorEq,n1,n2,n3,n4,n5,i0,i1,i2,i3,i4,i5,i6,i7,and1])
  have e:(((n % 2).toNat:Nat):Int)=n % 2:=by omega
  try rw [e]
  all_goals rfl
 by_cases h1:k=1
 ·subst h1
  repeat ((first|refine qA rfl ?_|apply qB|refine qC rfl ?_|apply qD|apply qE|apply qF|apply qG|apply qH);try simp (disch:=(first|omega|(simp only [qI,qJ,qK]<;>omega)|exact qL _)) only [go_sem,↓reduceIte,n0,reduceCtorEq,n1,n2,n3,n4,n5,i0,i1,i2,i3,i4,i5,i6,i7,tl8])
  all_goals rfl
 by_cases h2:k=2
 ·subst h2
  repeat ((first|refine qA rfl ?_|apply qB|refine qC rfl ?_|apply qD|apply qE|apply qF|apply qG|apply qH);try simp (disch:=(first|omega|(simp only [qI,qJ,qK]<;>omega)|exact qL _)) only [go_sem,↓reduceIte,n0,reduceCtorEq,n1,n2,n3,n4,n5,i0,i1,i2,i3,i4,i5,i6,i7,tl16])
  all_goals rfl
 by_cases h3:k=3
 ·subst h3
  repeat ((first|refine qA rfl ?_|apply qB|refine qC rfl ?_|apply qD|apply qE|apply qF|apply qG|apply qH);try simp (disch:=(first|omega|(simp only [qI,qJ,qK]<;>omega)|exact qL _)) only [go_sem,↓reduceIte,n0,reduceCtorEq,n1,n2,n3,n4,n5,i0,i1,i2,i3,i4,i5,i6,i7,tl32])
  all_goals rfl
 by_cases h5:k=5
 ·subst h5
  repeat ((first|refine qA rfl ?_|apply qB|refine qC rfl ?_|apply qD|apply qE|apply qF|apply qG|apply qH);try simp (disch:=(first|omega|(simp only [qI,qJ,qK]<;>omega)|exact qL _)) only [go_sem,↓reduceIte,n0,reduceCtorEq,n1,n2,n3,n4,n5,i0,i1,i2,i3,i4,i5,i6,i7,tlu16])
  all_goals rfl
 repeat ((first|refine qA rfl ?_|apply qB|refine qC rfl ?_|apply qD|apply qE|apply qF|apply qG|apply qH);try simp (disch:=(first|omega|(simp only [qI,qJ,qK]<;>omega)|exact qL _)) only [go_sem,↓reduceIte,n0,reduceCtorEq,n1,n2,n3,n4,n5,i0,i1,i2,i3,i4,i5,i6,i7])
 simp [numS,wrapN,h0,h1,h2,h3,h5]

theorem Usual_step {D:List Fld→Tree→Prop} (fs:List Fld) (g:Tree) (vf:Value) (cg:List Value) (w:World) (hf:FldsV AnyB w vf fs) (hfl:fs.length≤1000) (hg:TreeC AnyB w g cg) (hsm:Small 4611686018427387903 g)
  (hrec:∀ f∈fs,∀ (x:Tree) (vs:Value) (cx:List Value) (w':World),f.kind=10→FldsV AnyB w' vs f.sub→TreeC AnyB w' x cx→Small 4611686018427387903 x→D f.sub x→Fn Tryz.prog 25 #[vs,.agg cx.toArray] w' fun r w''=>r = .bool true∧Ext w' w'')
  (hu:g.u=[]) (hd:∀ i (h:i < fs.length),DfF D fs[i] (g.at i)) :
  Fn Tryz.prog 25 #[vf,.agg cg.toArray] w fun r w'=>r = .bool true∧Ext w w':=by
 obtain ⟨bf,cf,rfl,hcf⟩:=SlR.shape hf
 obtain ⟨gS,gL,gU,rfl,hgn,hgS,hgL,hgU⟩:=hg.inv
 have hl1:=hsm.s
 have hl2:=hsm.l
 have k1:=hgS.flat
 have k2:=SlR.flat hgL
 have k3:=SlR.flat hgU
 obtain ⟨bU,cU,rfl,hcU⟩:=SlR.shape hgU
 have hul:((g.u.length:Nat):Int)=0:=by rw [hu];rfl
 have hE:Ext w (w.alloc (.cells #[.int .i64 g.n,gS,.bool g.null,gL,.slice bU g.u.length cU] 26)):=Upd.alloc (Upd.refl _ _) _
 refine fn_of_W Tryz.func25 rfl Tryz.results25 Tryz.ntmps25 rfl ?_
 repeat ((first|refine qA rfl ?_|apply qB|refine qC rfl ?_|apply qD|apply qE|apply qF|apply qG|apply qH);try simp (disch:=(first|omega|(simp only [qI,qJ,qK]<;>omega)|exact qL _)) only [go_sem,↓reduceIte,n0,reduceCtorEq,n1,n2,n3,n4,n5,i0,i1,i2,i3,i4,i5,i6,i7,k1,k2,k3,hul])
 have hb1:blk (w.alloc (.cells #[.int .i64 g.n,gS,.bool g.null,gL,.slice bU g.u.length cU] 26)) w.heap.size=some (#[.int .i64 g.n,gS,.bool g.null,gL,.slice bU g.u.length cU],26,(0,0)):=blk_alloc_new rfl
 have hz2:(w.alloc (.cells #[.int .i64 g.n,gS,.bool g.null,gL,.slice bU g.u.length cU] 26)).heap.size=w.heap.size+1:=by simp only [World.size_alloc]
 generalize (w.alloc (.cells #[.int .i64 g.n,gS,.bool g.null,gL,.slice bU g.u.length cU] 26))=w2 at *
 refine W.loop (LoopL [(13,.int .i64 fs.length),(12,.slice bf fs.length cf),(3,.pointer (some ⟨w.heap.size,0,none⟩))] 14 (fun j w'=>j≤fs.length∧Ext w2 w')) (fun ρ _=>fs.length - (RowKit.intOf (ρ 14)).toNat) ?_ ?_
 ·exact ⟨(by simp (disch:=(first|omega|(simp only [qI,qJ,qK]<;>omega)|exact qL _)) only [go_sem,↓reduceIte,n0,reduceCtorEq,n1,n2,n3,n4,n5,i0,i1,i2,i3,i4,i5,i6,i7,Holds_nil,Holds_cons]),0,(by simp (disch:=(first|omega|(simp only [qI,qJ,qK]<;>omega)|exact qL _)) only [go_sem,↓reduceIte,n0,reduceCtorEq,n1,n2,n3,n4,n5,i0,i1,i2,i3,i4,i5,i6,i7];all_goals rfl),Nat.zero_le _,Upd.refl _ _⟩
 rintro ρ w3 ⟨⟨h13,h12,h3,-⟩,j,h14,hj,hE3⟩
 have hz3:=hE3.size
 have hE03:Ext w w3:=hE.trans hE3
 have hb13:=hE3.blk_some hb1 id
 by_cases hlt:j < fs.length
 ·skip
  have hdj:=hd j hlt
  obtain ⟨_,b,o,x,vs2,hb,hokb,hx,hblt,hxs,hxe,hfl2,hsub2⟩:=FldsV.get hf hlt
  subst hb
  have hx3:blk w3 b=some x:=hE03.blk_some hx id
  have hmem:=List.getElem_mem hlt
  generalize fs[j] = f at *
  have hE4:Ext w3 (wr (w3.alloc (.cells #[.int .i64 0,.int .i64 0,.int .i64 0,.int .i64 0,.int .i64 0,.int .i64 0,.int .i64 0,.slice none 0 0] 51)) w3.heap.size 0 [.int .i64 f.kind,.int .i64 f.fr,.int .i64 f.to,.int .i64 f.null,.int .i64 f.tag,.int .i64 f.df,.int .i64 f.of,vs2]):=(Upd.alloc (Upd.refl _ _) _).wr _ _ (.inl (Nat.le_refl _))
  have hb4:blk (wr (w3.alloc (.cells #[.int .i64 0,.int .i64 0,.int .i64 0,.int .i64 0,.int .i64 0,.int .i64 0,.int .i64 0,.slice none 0 0] 51)) w3.heap.size 0 [.int .i64 f.kind,.int .i64 f.fr,.int .i64 f.to,.int .i64 f.null,.int .i64 f.tag,.int .i64 f.df,.int .i64 f.of,vs2]) w3.heap.size=some (#[.int .i64 f.kind,.int .i64 f.fr,.int .i64 f.to,.int .i64 f.null,.int .i64 f.tag,.int .i64 f.df,.int .i64 f.of,vs2],51,(0,0)):=by rw [blk_wr_eq,blk_alloc_new rfl];rfl
  have hz4:(wr (w3.alloc (.cells #[.int .i64 0,.int .i64 0,.int .i64 0,.int .i64 0,.int .i64 0,.int .i64 0,.int .i64 0,.slice none 0 0] 51)) w3.heap.size 0 [.int .i64 f.kind,.int .i64 f.fr,.int .i64 f.to,.int .i64 f.null,.int .i64 f.tag,.int .i64 f.df,.int .i64 f.of,vs2]).heap.size=w3.heap.size+1:=by simp only [size_wr,World.size_alloc]
  repeat ((first|refine qA rfl ?_|apply qB|refine qC rfl ?_|apply qD|apply qE|apply qF|apply qG|apply qH);try simp (disch:=(first|omega|(simp only [qI,qJ,qK]<;>omega)|exact qL _)) only [go_sem,↓reduceIte,n0,reduceCtorEq,n1,n2,n3,n4,n5,i0,i1,i2,i3,i4,i5,i6,i7,h14,h13,h12,h3,hx3,hxe,hfl2,hb13,cellsAt_five,cellsAt_eight,Int.toNat_natCast])
  generalize (wr (w3.alloc (.cells #[.int .i64 0,.int .i64 0,.int .i64 0,.int .i64 0,.int .i64 0,.int .i64 0,.int .i64 0,.slice none 0 0] 51)) w3.heap.size 0 [.int .i64 f.kind,.int .i64 f.fr,.int .i64 f.to,.int .i64 f.null,.int .i64 f.tag,.int .i64 f.df,.int .i64 f.of,vs2])=w4 at *
  have hE04:=hE03.trans hE4
  refine (at_fn (ok:=AnyB) g j _ w4 (hg.keep (Ext.keeps hE04 _)) (by omega) (by omega)).mono ?_
  rintro _ w5 ⟨⟨c5,rfl,hc5⟩,hE5⟩
  have hsx:Small 4611686018427387903 (g.at j):=hsm.at j
  generalize g.at j=y at *
  obtain ⟨xS,xL,xU,rfl,hxn,hxS,hxL,hxU⟩:=hc5.inv
  have m1:=hxS.flat
  have m2:=SlR.flat hxL
  have m3:=SlR.flat hxU
  have hz5:=hE5.size
  have hb45:=hE5.blk_some hb4 id
  have hE05:=hE04.trans hE5
  have hys:=hsx.s
  have hyl:=hsx.l
  obtain ⟨bS,cS,rfl,hcS⟩:=hxS.shape
  obtain ⟨bL,cL,rfl,hcL⟩:=SlR.shape hxL
  have hE6:Ext w5 (wr (w5.alloc (.cells #[.int .i64 0,.slice none 0 0,.bool false,.slice none 0 0,.slice none 0 0] 26)) w5.heap.size 0 [.int .i64 y.n,.slice bS y.s.length cS,.bool y.null,.slice bL y.l.length cL,xU]):=(Upd.alloc (Upd.refl _ _) _).wr _ _ (.inl (Nat.le_refl _))
  have hb6:blk (wr (w5.alloc (.cells #[.int .i64 0,.slice none 0 0,.bool false,.slice none 0 0,.slice none 0 0] 26)) w5.heap.size 0 [.int .i64 y.n,.slice bS y.s.length cS,.bool y.null,.slice bL y.l.length cL,xU]) w5.heap.size=some (#[.int .i64 y.n,.slice bS y.s.length cS,.bool y.null,.slice bL y.l.length cL,xU],26,(0,0)):=by rw [blk_wr_eq,blk_alloc_new rfl];rfl
  have hz6:(wr (w5.alloc (.cells #[.int .i64 0,.slice none 0 0,.bool false,.slice none 0 0,.slice none 0 0] 26)) w5.heap.size 0 [.int .i64 y.n,.slice bS y.s.length cS,.bool y.null,.slice bL y.l.length cL,xU]).heap.size=w5.heap.size+1:=by simp only [size_wr,World.size_alloc]
  try simp (disch:=(first|omega|(simp only [qI,qJ,qK]<;>omega)|exact qL _)) only [go_sem,↓reduceIte,n0,reduceCtorEq,n1,n2,n3,n4,n5,i0,i1,i2,i3,i4,i5,i6,i7,m1,m2,m3]
  generalize (wr (w5.alloc (.cells #[.int .i64 0,.slice none 0 0,.bool false,.slice none 0 0,.slice none 0 0] 26)) w5.heap.size 0 [.int .i64 y.n,.slice bS y.s.length cS,.bool y.null,.slice bL y.l.length cL,xU])=w6 at *
  have hb46:=hE6.blk_some hb45 id
  have hE26:Ext w2 w6:=((hE3.trans hE4).trans hE5).trans hE6
  have hE06:=hE05.trans hE6
  have hsub6:=hsub2.keep (Ext.keeps hE06 _)
  have hc6:=hc5.keep (Ext.keeps hE6 _)
  unfold DfF at hdj
  by_cases h8:f.kind=8
  ·skip
   rw [if_pos h8] at hdj
   obtain ⟨hn8,hs8⟩:=hdj
   have hsl:((y.s.length:Nat):Int)=0:=by rw [hs8];rfl
   by_cases hnl:0≤f.null
   ·skip
    have hn9:y.null=true:=by rw [hn8];simp;omega
    repeat ((first|refine qA rfl ?_|apply qB|refine qC rfl ?_|apply qD|apply qE|apply qF|apply qG|apply qH);try simp (disch:=(first|omega|(simp only [qI,qJ,qK]<;>omega)|exact qL _)) only [go_sem,↓reduceIte,n0,reduceCtorEq,n1,n2,n3,n4,n5,i0,i1,i2,i3,i4,i5,i6,i7,hb46,hb6,hn9,hsl,h14,beq_self_eq_true,bne_self_eq_false,ne_eq,not_true_eq_false,not_false_eq_true])
    refine ⟨⟨(by simp (disch:=(first|omega|(simp only [qI,qJ,qK]<;>omega)|exact qL _)) only [go_sem,↓reduceIte,n0,reduceCtorEq,n1,n2,n3,n4,n5,i0,i1,i2,i3,i4,i5,i6,i7,Holds_nil,Holds_cons,h13,h12,h3]),j+1,(by simp (disch:=(first|omega|(simp only [qI,qJ,qK]<;>omega)|exact qL _)) only [go_sem,↓reduceIte,n0,reduceCtorEq,n1,n2,n3,n4,n5,i0,i1,i2,i3,i4,i5,i6,i7,h14];all_goals rfl),by omega,hE26⟩,?_⟩
    try simp (disch:=(first|omega|(simp only [qI,qJ,qK]<;>omega)|exact qL _)) only [go_sem,↓reduceIte,n0,reduceCtorEq,n1,n2,n3,n4,n5,i0,i1,i2,i3,i4,i5,i6,i7,h14]
    simp only [RowKit.intOf]
    omega
   ·skip
    have hn9:y.null=false:=by rw [hn8];simp;omega
    repeat ((first|refine qA rfl ?_|apply qB|refine qC rfl ?_|apply qD|apply qE|apply qF|apply qG|apply qH);try simp (disch:=(first|omega|(simp only [qI,qJ,qK]<;>omega)|exact qL _)) only [go_sem,↓reduceIte,n0,reduceCtorEq,n1,n2,n3,n4,n5,i0,i1,i2,i3,i4,i5,i6,i7,hb46,hb6,hn9,hsl,h14,beq_self_eq_true,bne_self_eq_false,ne_eq,not_true_eq_false,not_false_eq_true])
    refine ⟨⟨(by simp (disch:=(first|omega|(simp only [qI,qJ,qK]<;>omega)|exact qL _)) only [go_sem,↓reduceIte,n0,reduceCtorEq,n1,n2,n3,n4,n5,i0,i1,i2,i3,i4,i5,i6,i7,Holds_nil,Holds_cons,h13,h12,h3]),j+1,(by simp (disch:=(first|omega|(simp only [qI,qJ,qK]<;>omega)|exact qL _)) only [go_sem,↓reduceIte,n0,reduceCtorEq,n1,n2,n3,n4,n5,i0,i1,i2,i3,i4,i5,i6,i7,h14];all_goals rfl),by omega,hE26⟩,?_⟩
    try simp (disch:=(first|omega|(simp only [qI,qJ,qK]<;>omega)|exact qL _)) only [go_sem,↓reduceIte,n0,reduceCtorEq,n1,n2,n3,n4,n5,i0,i1,i2,i3,i4,i5,i6,i7,h14]
    simp only [RowKit.intOf]
    omega
  rw [if_neg h8] at hdj
  by_cases h7:f.kind=7
  ·skip
   rw [if_pos h7] at hdj
   repeat ((first|refine qA rfl ?_|apply qB|refine qC rfl ?_|apply qD|apply qE|apply qF|apply qG|apply qH);try simp (disch:=(first|omega|(simp only [qI,qJ,qK]<;>omega)|exact qL _)) only [go_sem,↓reduceIte,n0,reduceCtorEq,n1,n2,n3,n4,n5,i0,i1,i2,i3,i4,i5,i6,i7,hb46,hb6])
   refine W.drawR (.take 0 (.take 1 (.only 2 (.only 3 (.take 4 .done))))) NoB mixed (by kernel_rfl) ?_
   try simp (disch:=(first|omega|(simp only [qI,qJ,qK]<;>omega)|exact qL _)) only [go_sem,↓reduceIte,n0,reduceCtorEq,n1,n2,n3,n4,n5,i0,i1,i2,i3,i4,i5,i6,i7,hb6]
   have hEd:Ext w6 w6.drew:=(Upd.refl _ _).drew
   have hyd:BytesV AnyB w6.drew (.slice bS y.s.length cS) (uuidS []):=by
    have h:=(hxS.keep (Ext.keeps hE6 _)).keep (Ext.keeps hEd _)
    rw [hdj] at h ⊢
    exact h
   have hE2d:=hE26.trans hEd
   generalize w6.drew=w7 at *
   refine wp_make (T:=22) (E:=5) (size:=1) (bytes:=1) (z:=.int .u8 0) (by kernel_rfl) (by kernel_rfl) (kl:=.i64) (kc:=.i64) (l:=16) (c:=16) (by first|rfl|(simp (disch:=(first|omega|(simp only [qI,qJ,qK]<;>omega)|exact qL _)) only [go_sem,↓reduceIte,n0,reduceCtorEq,n1,n2,n3,n4,n5,i0,i1,i2,i3,i4,i5,i6,i7];rfl)) (by first|rfl|(simp (disch:=(first|omega|(simp only [qI,qJ,qK]<;>omega)|exact qL _)) only [go_sem,↓reduceIte,n0,reduceCtorEq,n1,n2,n3,n4,n5,i0,i1,i2,i3,i4,i5,i6,i7];rfl)) (by omega) (by omega) (by omega) ?_
   rw [show (Value.int .u8 0).cells=#[Value.int .u8 0] from rfl,made_one]
   have hE8:Ext w7 (w7.alloc (.cells (List.replicate (16 * 1) (Value.int .u8 0)).toArray 5)):=Upd.alloc (Upd.refl _ _) _
   have hv8:BytesV AnyB (w7.alloc (.cells (List.replicate (16 * 1) (Value.int .u8 0)).toArray 5)) (.slice (some ⟨w7.heap.size,0,none⟩) 16 16) (uuidS []):=bytes_at (blk_alloc_new rfl) rfl fun i hi=>by simp only [Nat.zero_add,List.getElem?_toArray];rfl
   try simp (disch:=(first|omega|(simp only [qI,qJ,qK]<;>omega)|exact qL _)) only [go_sem,↓reduceIte,n0,reduceCtorEq,n1,n2,n3,n4,n5,i0,i1,i2,i3,i4,i5,i6,i7]
   generalize (w7.alloc (.cells (List.replicate (16 * 1) (Value.int .u8 0)).toArray 5))=w8 at *
   refine ⟨hE8,?_⟩
   try simp (disch:=(first|omega|(simp only [qI,qJ,qK]<;>omega)|exact qL _)) only [go_sem,↓reduceIte,n0,reduceCtorEq,n1,n2,n3,n4,n5,i0,i1,i2,i3,i4,i5,i6,i7]
   refine (Same_fn (ok:=AnyB) (uuidS []) (uuidS []) _ _ w8 (hyd.keep (Ext.keeps hE8 _)) hv8 (by decide)).mono ?_
   rintro _ w9 ⟨rfl,hE9⟩
   have hsame:decide (uuidS [] = uuidS [])=true:=decide_eq_true rfl
   have hE79:=hE8.trans hE9
   refine ⟨hE79,?_⟩
   try simp (disch:=(first|omega|(simp only [qI,qJ,qK]<;>omega)|exact qL _)) only [go_sem,↓reduceIte,n0,reduceCtorEq,n1,n2,n3,n4,n5,i0,i1,i2,i3,i4,i5,i6,i7,hsame]
   repeat ((first|refine qA rfl ?_|apply qB|refine qC rfl ?_|apply qD|apply qE|apply qF|apply qG|apply qH);try simp (disch:=(first|omega|(simp only [qI,qJ,qK]<;>omega)|exact qL _)) only [go_sem,↓reduceIte,n0,reduceCtorEq,n1,n2,n3,n4,n5,i0,i1,i2,i3,i4,i5,i6,i7,hsame,h14])
   refine ⟨⟨(by simp (disch:=(first|omega|(simp only [qI,qJ,qK]<;>omega)|exact qL _)) only [go_sem,↓reduceIte,n0,reduceCtorEq,n1,n2,n3,n4,n5,i0,i1,i2,i3,i4,i5,i6,i7,Holds_nil,Holds_cons,h13,h12,h3]),j+1,(by simp (disch:=(first|omega|(simp only [qI,qJ,qK]<;>omega)|exact qL _)) only [go_sem,↓reduceIte,n0,reduceCtorEq,n1,n2,n3,n4,n5,i0,i1,i2,i3,i4,i5,i6,i7,h14];all_goals rfl),by omega,hE2d.trans hE79⟩,?_⟩
   try simp (disch:=(first|omega|(simp only [qI,qJ,qK]<;>omega)|exact qL _)) only [go_sem,↓reduceIte,n0,reduceCtorEq,n1,n2,n3,n4,n5,i0,i1,i2,i3,i4,i5,i6,i7,h14]
   simp only [RowKit.intOf]
   omega
  rw [if_neg h7] at hdj
  by_cases h9:f.kind=9
  ·skip
   rw [if_pos (by omega)] at hdj
   have hsl:((y.s.length:Nat):Int)=0:=by rw [hdj.1];rfl
   have hll:((y.l.length:Nat):Int)=0:=by rw [hdj.2];rfl
   repeat ((first|refine qA rfl ?_|apply qB|refine qC rfl ?_|apply qD|apply qE|apply qF|apply qG|apply qH);try simp (disch:=(first|omega|(simp only [qI,qJ,qK]<;>omega)|exact qL _)) only [go_sem,↓reduceIte,n0,reduceCtorEq,n1,n2,n3,n4,n5,i0,i1,i2,i3,i4,i5,i6,i7,hb46,hb6,hsl,hll,h14])
   refine ⟨⟨(by simp (disch:=(first|omega|(simp only [qI,qJ,qK]<;>omega)|exact qL _)) only [go_sem,↓reduceIte,n0,reduceCtorEq,n1,n2,n3,n4,n5,i0,i1,i2,i3,i4,i5,i6,i7,Holds_nil,Holds_cons,h13,h12,h3]),j+1,(by simp (disch:=(first|omega|(simp only [qI,qJ,qK]<;>omega)|exact qL _)) only [go_sem,↓reduceIte,n0,reduceCtorEq,n1,n2,n3,n4,n5,i0,i1,i2,i3,i4,i5,i6,i7,h14];all_goals rfl),by omega,hE26⟩,?_⟩
   try simp (disch:=(first|omega|(simp only [qI,qJ,qK]<;>omega)|exact qL _)) only [go_sem,↓reduceIte,n0,reduceCtorEq,n1,n2,n3,n4,n5,i0,i1,i2,i3,i4,i5,i6,i7,h14]
   simp only [RowKit.intOf]
   omega
  by_cases h11:f.kind=11
  ·skip
   rw [if_pos (by omega)] at hdj
   have hsl:((y.s.length:Nat):Int)=0:=by rw [hdj.1];rfl
   have hll:((y.l.length:Nat):Int)=0:=by rw [hdj.2];rfl
   repeat ((first|refine qA rfl ?_|apply qB|refine qC rfl ?_|apply qD|apply qE|apply qF|apply qG|apply qH);try simp (disch:=(first|omega|(simp only [qI,qJ,qK]<;>omega)|exact qL _)) only [go_sem,↓reduceIte,n0,reduceCtorEq,n1,n2,n3,n4,n5,i0,i1,i2,i3,i4,i5,i6,i7,hb46,hb6,hsl,hll,h14])
   refine ⟨⟨(by simp (disch:=(first|omega|(simp only [qI,qJ,qK]<;>omega)|exact qL _)) only [go_sem,↓reduceIte,n0,reduceCtorEq,n1,n2,n3,n4,n5,i0,i1,i2,i3,i4,i5,i6,i7,Holds_nil,Holds_cons,h13,h12,h3]),j+1,(by simp (disch:=(first|omega|(simp only [qI,qJ,qK]<;>omega)|exact qL _)) only [go_sem,↓reduceIte,n0,reduceCtorEq,n1,n2,n3,n4,n5,i0,i1,i2,i3,i4,i5,i6,i7,h14];all_goals rfl),by omega,hE26⟩,?_⟩
   try simp (disch:=(first|omega|(simp only [qI,qJ,qK]<;>omega)|exact qL _)) only [go_sem,↓reduceIte,n0,reduceCtorEq,n1,n2,n3,n4,n5,i0,i1,i2,i3,i4,i5,i6,i7,h14]
   simp only [RowKit.intOf]
   omega
  rw [if_neg (by omega)] at hdj
  by_cases h10:f.kind=10
  ·skip
   rw [if_pos h10] at hdj
   by_cases hnl:0≤f.null
   ·skip
    have hn9:y.null=true:=hdj.1 hnl
    repeat ((first|refine qA rfl ?_|apply qB|refine qC rfl ?_|apply qD|apply qE|apply qF|apply qG|apply qH);try simp (disch:=(first|omega|(simp only [qI,qJ,qK]<;>omega)|exact qL _)) only [go_sem,↓reduceIte,n0,reduceCtorEq,n1,n2,n3,n4,n5,i0,i1,i2,i3,i4,i5,i6,i7,hb46,hb6,hn9,h14])
    refine ⟨⟨(by simp (disch:=(first|omega|(simp only [qI,qJ,qK]<;>omega)|exact qL _)) only [go_sem,↓reduceIte,n0,reduceCtorEq,n1,n2,n3,n4,n5,i0,i1,i2,i3,i4,i5,i6,i7,Holds_nil,Holds_cons,h13,h12,h3]),j+1,(by simp (disch:=(first|omega|(simp only [qI,qJ,qK]<;>omega)|exact qL _)) only [go_sem,↓reduceIte,n0,reduceCtorEq,n1,n2,n3,n4,n5,i0,i1,i2,i3,i4,i5,i6,i7,h14];all_goals rfl),by omega,hE26⟩,?_⟩
    try simp (disch:=(first|omega|(simp only [qI,qJ,qK]<;>omega)|exact qL _)) only [go_sem,↓reduceIte,n0,reduceCtorEq,n1,n2,n3,n4,n5,i0,i1,i2,i3,i4,i5,i6,i7,h14]
    simp only [RowKit.intOf]
    omega
   repeat ((first|refine qA rfl ?_|apply qB|refine qC rfl ?_|apply qD|apply qE|apply qF|apply qG|apply qH);try simp (disch:=(first|omega|(simp only [qI,qJ,qK]<;>omega)|exact qL _)) only [go_sem,↓reduceIte,n0,reduceCtorEq,n1,n2,n3,n4,n5,i0,i1,i2,i3,i4,i5,i6,i7,hb46,hb6,hfl2,cellsAt_five])
   refine (hrec f hmem y vs2 _ w6 h10 hsub6 hc6 hsx (hdj.2 (by omega))).mono ?_
   rintro _ w9 ⟨rfl,hE9⟩
   try simp (disch:=(first|omega|(simp only [qI,qJ,qK]<;>omega)|exact qL _)) only [go_sem,↓reduceIte,n0,reduceCtorEq,n1,n2,n3,n4,n5,i0,i1,i2,i3,i4,i5,i6,i7]
   repeat ((first|refine qA rfl ?_|apply qB|refine qC rfl ?_|apply qD|apply qE|apply qF|apply qG|apply qH);try simp (disch:=(first|omega|(simp only [qI,qJ,qK]<;>omega)|exact qL _)) only [go_sem,↓reduceIte,n0,reduceCtorEq,n1,n2,n3,n4,n5,i0,i1,i2,i3,i4,i5,i6,i7,h14])
   refine ⟨⟨(by simp (disch:=(first|omega|(simp only [qI,qJ,qK]<;>omega)|exact qL _)) only [go_sem,↓reduceIte,n0,reduceCtorEq,n1,n2,n3,n4,n5,i0,i1,i2,i3,i4,i5,i6,i7,Holds_nil,Holds_cons,h13,h12,h3]),j+1,(by simp (disch:=(first|omega|(simp only [qI,qJ,qK]<;>omega)|exact qL _)) only [go_sem,↓reduceIte,n0,reduceCtorEq,n1,n2,n3,n4,n5,i0,i1,i2,i3,i4,i5,i6,i7,h14];all_goals rfl),by omega,hE26.trans hE9⟩,?_⟩
   try simp (disch:=(first|omega|(simp only [qI,qJ,qK]<;>omega)|exact qL _)) only [go_sem,↓reduceIte,n0,reduceCtorEq,n1,n2,n3,n4,n5,i0,i1,i2,i3,i4,i5,i6,i7,h14]
   simp only [RowKit.intOf]
   omega
  rw [if_neg h10] at hdj
  repeat ((first|refine qA rfl ?_|apply qB|refine qC rfl ?_|apply qD|apply qE|apply qF|apply qG|apply qH);try simp (disch:=(first|omega|(simp only [qI,qJ,qK]<;>omega)|exact qL _)) only [go_sem,↓reduceIte,n0,reduceCtorEq,n1,n2,n3,n4,n5,i0,i1,i2,i3,i4,i5,i6,i7,hb46,hb6])
  refine W.drawR (.take 0 (.take 1 (.take 2 (.take 3 (.take 4 (.take 5 (.only 6 (.take 7 .done)))))))) NoB mixed (by kernel_rfl) ?_
  try simp (disch:=(first|omega|(simp only [qI,qJ,qK]<;>omega)|exact qL _)) only [go_sem,↓reduceIte,n0,reduceCtorEq,n1,n2,n3,n4,n5,i0,i1,i2,i3,i4,i5,i6,i7,hb46,hb6]
  have hEd:Ext w6 w6.drew:=(Upd.refl _ _).drew
  have hE2d:=hE26.trans hEd
  generalize w6.drew=w7 at *
  refine (number_fn f.kind f.df w7).mono ?_
  rintro _ _ ⟨rfl,rfl⟩
  refine ⟨Upd.refl _ _,?_⟩
  try simp (disch:=(first|omega|(simp only [qI,qJ,qK]<;>omega)|exact qL _)) only [go_sem,↓reduceIte,n0,reduceCtorEq,n1,n2,n3,n4,n5,i0,i1,i2,i3,i4,i5,i6,i7,hdj,beq_self_eq_true,bne_self_eq_false,ne_eq,not_true_eq_false,not_false_eq_true]
  repeat ((first|refine qA rfl ?_|apply qB|refine qC rfl ?_|apply qD|apply qE|apply qF|apply qG|apply qH);try simp (disch:=(first|omega|(simp only [qI,qJ,qK]<;>omega)|exact qL _)) only [go_sem,↓reduceIte,n0,reduceCtorEq,n1,n2,n3,n4,n5,i0,i1,i2,i3,i4,i5,i6,i7,hdj,h14,beq_self_eq_true,bne_self_eq_false,ne_eq,not_true_eq_false,not_false_eq_true])
  refine ⟨⟨(by simp (disch:=(first|omega|(simp only [qI,qJ,qK]<;>omega)|exact qL _)) only [go_sem,↓reduceIte,n0,reduceCtorEq,n1,n2,n3,n4,n5,i0,i1,i2,i3,i4,i5,i6,i7,Holds_nil,Holds_cons,h13,h12,h3]),j+1,(by simp (disch:=(first|omega|(simp only [qI,qJ,qK]<;>omega)|exact qL _)) only [go_sem,↓reduceIte,n0,reduceCtorEq,n1,n2,n3,n4,n5,i0,i1,i2,i3,i4,i5,i6,i7,h14];all_goals rfl),by omega,hE2d⟩,?_⟩
  try simp (disch:=(first|omega|(simp only [qI,qJ,qK]<;>omega)|exact qL _)) only [go_sem,↓reduceIte,n0,reduceCtorEq,n1,n2,n3,n4,n5,i0,i1,i2,i3,i4,i5,i6,i7,h14]
  simp only [RowKit.intOf]
  omega
 repeat ((first|refine qA rfl ?_|apply qB|refine qC rfl ?_|apply qD|apply qE|apply qF|apply qG|apply qH);try simp (disch:=(first|omega|(simp only [qI,qJ,qK]<;>omega)|exact qL _)) only [go_sem,↓reduceIte,n0,reduceCtorEq,n1,n2,n3,n4,n5,i0,i1,i2,i3,i4,i5,i6,i7,h14,h13])
 exact hE03

theorem okF_one {d:Nat} {fs:List Fld} (h:okF d fs=true) {f:Fld} (hf:f∈fs):okF d [f] = true:=by
 obtain ⟨e,rfl,hB,hok⟩:=okF_el h hf
 simp only [okF,List.all_cons,List.all_nil,Bool.and_true,Bool.and_eq_true,hok,and_true]
 exact ⟨rfl,decide_eq_true hB⟩

theorem Usual_fn : ∀ (d:Nat) (fs:List Fld) (g:Tree) (vf:Value) (cg:List Value) (w:World),FldsV AnyB w vf fs→okF d fs=true→TreeC AnyB w g cg→Small 4611686018427387903 g→DfP (d+1) fs g →
  Fn Tryz.prog 25 #[vf,.agg cg.toArray] w fun r w'=>r = .bool true∧Ext w w':=by
 intro d
 induction d with
 | zero =>
  intro fs g vf cg w hf hok hg hsm hd
  have hnil:fs=[]:=by simpa [okF] using hok
  subst hnil
  exact Usual_step [] g vf cg w hf (by simp) hg hsm (fun _ h=>by cases h) hd.1 hd.2
 | succ d ih =>
  intro fs g vf cg w hf hok hg hsm hd
  refine Usual_step (D:=DfP (d+1)) fs g vf cg w hf (okF_len hok) hg hsm (fun f hm x vs cx w' _ h1 h2 h3 h4 => ?_) hd.1 hd.2
  obtain ⟨e,he,hB,hok'⟩:=okF_el hok hm
  cases he
  exact ih f.sub x vs cx w' h1 hok' h2 h3 h4


set_option maxHeartbeats 24000000
open Go Go.Proofs Go.Shelf
attribute [local congr] W_congr WPsq_congr WPp_congr optK_congr addrK_congr intK_congr boolK_congr sliceK_congr tupleK_congr funcK_congr Fn_congr rawK_congr takeK_congr stepK_congr convK_congr aggK_congr

theorem told_one {T:List Fld→Tree→Tree→Prop} (f:Fld) (ver:Int) (flex:Bool) (t g:Tree) (cf ct cg:List Value) (w:World) (hf:FldC AnyB w f cf) (hB:okB f) (ht:TreeC AnyB w t ct) (hg:TreeC AnyB w g cg) (hsm:Small 4611686018427387903 t) (hsg:Small 4611686018427387903 g)
  (hT:∀ (x y:Tree) (vs:Value) (cx cy:List Value) (w':World),FldsV AnyB w' vs f.sub→TreeC AnyB w' x cx→TreeC AnyB w' y cy→Small 4611686018427387903 x→Small 4611686018427387903 y→T f.sub x y→Fn Tryz.prog 10 #[vs,.int .i64 ver,.bool flex,.agg cx.toArray,.agg cy.toArray] w' fun r w''=>r = .bool true∧Ext w' w'')
  (hd:ToldF T ver f t g) (h11k:f.kind≠11) :
  Fn Tryz.prog 24 #[.agg cf.toArray,.int .i64 ver,.bool flex,.agg ct.toArray,.agg cg.toArray] w fun r w'=>r = .bool true∧Ext w w':=by
 obtain ⟨vs,rfl,hsub⟩:=hf.inv
 obtain ⟨vS,vL,vU,rfl,hn,hS,hL,hU⟩:=ht.inv
 obtain ⟨gS,gL,gU,rfl,hgn,hgS,hgL,hgU⟩:=hg.inv
 have hl1:=hsm.s
 have hl2:=hsm.l
 have hl3:=hsg.s
 have hl4:=hsg.l
 have f0:=SlR.flat hsub
 have f1:=hS.flat
 have f2:=SlR.flat hL
 have f3:=SlR.flat hU
 have k1:=hgS.flat
 have k2:=SlR.flat hgL
 have k3:=SlR.flat hgU
 obtain ⟨bG,cG,rfl,hcG⟩:=SlR.shape hgL
 obtain ⟨bS,cS,rfl,hcS⟩:=hS.shape
 have hE:Ext w (((w.alloc (.cells #[.int .i64 f.kind,.int .i64 f.fr,.int .i64 f.to,.int .i64 f.null,.int .i64 f.tag,.int .i64 f.df,.int .i64 f.of,vs] 51)).alloc (.cells #[.int .i64 t.n,.slice bS t.s.length cS,.bool t.null,vL,vU] 26)).alloc (.cells #[.int .i64 g.n,gS,.bool g.null,.slice bG g.l.length cG,gU] 26)):=Upd.alloc (Upd.alloc (Upd.alloc (Upd.refl _ _) _) _) _
 refine fn_of_W Tryz.func24 rfl Tryz.results24 Tryz.ntmps24 rfl ?_
 repeat ((first|refine qA rfl ?_|apply qB|refine qC rfl ?_|apply qD|apply qE|apply qF|apply qG|apply qH);try simp (disch:=(first|omega|(simp only [qI,qJ,qK]<;>omega)|exact qL _)) only [go_sem,↓reduceIte,n0,reduceCtorEq,n1,n2,n3,n4,n5,i0,i1,i2,i3,i4,i5,i6,i7,f0,f1,f2,f3,k1,k2,k3,cellsAt_five,cellsAt_eight])
 have hb0:blk (((w.alloc (.cells #[.int .i64 f.kind,.int .i64 f.fr,.int .i64 f.to,.int .i64 f.null,.int .i64 f.tag,.int .i64 f.df,.int .i64 f.of,vs] 51)).alloc (.cells #[.int .i64 t.n,.slice bS t.s.length cS,.bool t.null,vL,vU] 26)).alloc (.cells #[.int .i64 g.n,gS,.bool g.null,.slice bG g.l.length cG,gU] 26)) w.heap.size=some (#[.int .i64 f.kind,.int .i64 f.fr,.int .i64 f.to,.int .i64 f.null,.int .i64 f.tag,.int .i64 f.df,.int .i64 f.of,vs],51,(0,0)):=by simp (disch:=(first|omega|(simp only [qI,qJ,qK]<;>omega)|exact qL _)) only [go_sem,↓reduceIte,n0,reduceCtorEq,n1,n2,n3,n4,n5,i0,i1,i2,i3,i4,i5,i6,i7]
 have hb1:blk (((w.alloc (.cells #[.int .i64 f.kind,.int .i64 f.fr,.int .i64 f.to,.int .i64 f.null,.int .i64 f.tag,.int .i64 f.df,.int .i64 f.of,vs] 51)).alloc (.cells #[.int .i64 t.n,.slice bS t.s.length cS,.bool t.null,vL,vU] 26)).alloc (.cells #[.int .i64 g.n,gS,.bool g.null,.slice bG g.l.length cG,gU] 26)) (w.heap.size+1)=some (#[.int .i64 t.n,.slice bS t.s.length cS,.bool t.null,vL,vU],26,(0,0)):=by simp (disch:=(first|omega|(simp only [qI,qJ,qK]<;>omega)|exact qL _)) only [go_sem,↓reduceIte,n0,reduceCtorEq,n1,n2,n3,n4,n5,i0,i1,i2,i3,i4,i5,i6,i7]
 have hb2:blk (((w.alloc (.cells #[.int .i64 f.kind,.int .i64 f.fr,.int .i64 f.to,.int .i64 f.null,.int .i64 f.tag,.int .i64 f.df,.int .i64 f.of,vs] 51)).alloc (.cells #[.int .i64 t.n,.slice bS t.s.length cS,.bool t.null,vL,vU] 26)).alloc (.cells #[.int .i64 g.n,gS,.bool g.null,.slice bG g.l.length cG,gU] 26)) (w.heap.size+2)=some (#[.int .i64 g.n,gS,.bool g.null,.slice bG g.l.length cG,gU],26,(0,0)):=by simp (disch:=(first|omega|(simp only [qI,qJ,qK]<;>omega)|exact qL _)) only [go_sem,↓reduceIte,n0,reduceCtorEq,n1,n2,n3,n4,n5,i0,i1,i2,i3,i4,i5,i6,i7]
 have hz2:(((w.alloc (.cells #[.int .i64 f.kind,.int .i64 f.fr,.int .i64 f.to,.int .i64 f.null,.int .i64 f.tag,.int .i64 f.df,.int .i64 f.of,vs] 51)).alloc (.cells #[.int .i64 t.n,.slice bS t.s.length cS,.bool t.null,vL,vU] 26)).alloc (.cells #[.int .i64 g.n,gS,.bool g.null,.slice bG g.l.length cG,gU] 26)).heap.size=w.heap.size+3:=by simp only [World.size_alloc]
 generalize (((w.alloc (.cells #[.int .i64 f.kind,.int .i64 f.fr,.int .i64 f.to,.int .i64 f.null,.int .i64 f.tag,.int .i64 f.df,.int .i64 f.of,vs] 51)).alloc (.cells #[.int .i64 t.n,.slice bS t.s.length cS,.bool t.null,vL,vU] 26)).alloc (.cells #[.int .i64 g.n,gS,.bool g.null,.slice bG g.l.length cG,gU] 26))=w2 at *
 refine (Null_fn (ok:=AnyB) f ver t _ _ w2 (FldC.of (hsub.keep (Ext.keeps hE _))) (ht.keep (Ext.keeps hE _))).mono ?_
 rintro _ w3 ⟨rfl,hE3⟩
 have hE03:Ext w w3:=hE.trans hE3
 have hz3:=hE3.size
 have hb03:=hE3.blk_some hb0 id
 have hb13:=hE3.blk_some hb1 id
 have hb23:=hE3.blk_some hb2 id
 clear hb0 hb1 hb2
 try simp (disch:=(first|omega|(simp only [qI,qJ,qK]<;>omega)|exact qL _)) only [go_sem,↓reduceIte,n0,reduceCtorEq,n1,n2,n3,n4,n5,i0,i1,i2,i3,i4,i5,i6,i7]
 repeat refine W.seq ?_
 refine W.normJ (EndQ [(5,.pointer (some ⟨w.heap.size,0,none⟩)),(8,.pointer (some ⟨w.heap.size+1,0,none⟩)),(9,.pointer (some ⟨w.heap.size+2,0,none⟩)),(1,.int .i64 ver),(2,.bool flex),(11,.bool (nullS f ver t)),(12,.bool (mayS f ver))] (fun w'=>w'=w3)) ?_ ?_
 ·skip
  refine W.regR rfl ?_
  by_cases hm1:0≤f.null
  ·by_cases hm2:f.null≤ver
   ·have hm:mayS f ver=true:=by simp [mayS,hm1,hm2]
    try simp (disch:=(first|omega|(simp only [qI,qJ,qK]<;>omega)|exact qL _)) only [go_sem,↓reduceIte,n0,reduceCtorEq,n1,n2,n3,n4,n5,i0,i1,i2,i3,i4,i5,i6,i7,hb03]
    exact ⟨(by simp (disch:=(first|omega|(simp only [qI,qJ,qK]<;>omega)|exact qL _)) only [go_sem,↓reduceIte,n0,reduceCtorEq,n1,n2,n3,n4,n5,i0,i1,i2,i3,i4,i5,i6,i7,Holds_nil,Holds_cons,hm]),rfl⟩
   ·have hm:mayS f ver=false:=by simp [mayS,hm2]
    try simp (disch:=(first|omega|(simp only [qI,qJ,qK]<;>omega)|exact qL _)) only [go_sem,↓reduceIte,n0,reduceCtorEq,n1,n2,n3,n4,n5,i0,i1,i2,i3,i4,i5,i6,i7,hb03]
    exact ⟨(by simp (disch:=(first|omega|(simp only [qI,qJ,qK]<;>omega)|exact qL _)) only [go_sem,↓reduceIte,n0,reduceCtorEq,n1,n2,n3,n4,n5,i0,i1,i2,i3,i4,i5,i6,i7,Holds_nil,Holds_cons,hm]),rfl⟩
  ·have hm:mayS f ver=false:=by simp [mayS,hm1]
   try simp (disch:=(first|omega|(simp only [qI,qJ,qK]<;>omega)|exact qL _)) only [go_sem,↓reduceIte,n0,reduceCtorEq,n1,n2,n3,n4,n5,i0,i1,i2,i3,i4,i5,i6,i7,hb03]
   exact ⟨(by simp (disch:=(first|omega|(simp only [qI,qJ,qK]<;>omega)|exact qL _)) only [go_sem,↓reduceIte,n0,reduceCtorEq,n1,n2,n3,n4,n5,i0,i1,i2,i3,i4,i5,i6,i7,Holds_nil,Holds_cons,hm]),rfl⟩
 rintro ρ w4 ⟨⟨h5,h8,h9,h1,h2,h11,h12,-⟩,hw4⟩
 obtain rfl:=hw4.symm
 try simp (disch:=(first|omega|(simp only [qI,qJ,qK]<;>omega)|exact qL _)) only [go_sem,↓reduceIte,n0,reduceCtorEq,n1,n2,n3,n4,n5,i0,i1,i2,i3,i4,i5,i6,i7]
 obtain ⟨hd1,hd2⟩:=hd
 repeat refine W.seq ?_
 refine W.normJ (EndQ [(5,.pointer (some ⟨w.heap.size,0,none⟩)),(8,.pointer (some ⟨w.heap.size+1,0,none⟩)),(9,.pointer (some ⟨w.heap.size+2,0,none⟩)),(1,.int .i64 ver),(2,.bool flex),(11,.bool (nullS f ver t)),(12,.bool (mayS f ver)),(46,.bool false)] (fun w'=>w'=w3)) ?_ ?_
 ·skip
  refine W.regR rfl ?_
  by_cases h8k:f.kind=8
  ·have hnn:=hd1 (by omega)
   try simp (disch:=(first|omega|(simp only [qI,qJ,qK]<;>omega)|exact qL _)) only [go_sem,↓reduceIte,n0,reduceCtorEq,n1,n2,n3,n4,n5,i0,i1,i2,i3,i4,i5,i6,i7,hb03,hb23,h5,h8,h9,h1,h2,h11,h12,h8k,hnn,beq_self_eq_true,bne_self_eq_false,ne_eq,not_true_eq_false,not_false_eq_true]
   exact ⟨(by simp (disch:=(first|omega|(simp only [qI,qJ,qK]<;>omega)|exact qL _)) only [go_sem,↓reduceIte,n0,reduceCtorEq,n1,n2,n3,n4,n5,i0,i1,i2,i3,i4,i5,i6,i7,Holds_nil,Holds_cons,h5,h8,h9,h1,h2,h11,h12]),rfl⟩
  by_cases h10k:f.kind=10
  ·have hnn:=hd1 (by omega)
   try simp (disch:=(first|omega|(simp only [qI,qJ,qK]<;>omega)|exact qL _)) only [go_sem,↓reduceIte,n0,reduceCtorEq,n1,n2,n3,n4,n5,i0,i1,i2,i3,i4,i5,i6,i7,hb03,hb23,h5,h8,h9,h1,h2,h11,h12,h10k,hnn,beq_self_eq_true,bne_self_eq_false,ne_eq,not_true_eq_false,not_false_eq_true]
   exact ⟨(by simp (disch:=(first|omega|(simp only [qI,qJ,qK]<;>omega)|exact qL _)) only [go_sem,↓reduceIte,n0,reduceCtorEq,n1,n2,n3,n4,n5,i0,i1,i2,i3,i4,i5,i6,i7,Holds_nil,Holds_cons,h5,h8,h9,h1,h2,h11,h12]),rfl⟩
  cases hm:mayS f ver with
  | true =>
   have hnn:=hd1 (.inr (.inr hm))
   try simp (disch:=(first|omega|(simp only [qI,qJ,qK]<;>omega)|exact qL _)) only [go_sem,↓reduceIte,n0,reduceCtorEq,n1,n2,n3,n4,n5,i0,i1,i2,i3,i4,i5,i6,i7,hb03,hb23,h5,h8,h9,h1,h2,h11,h12,hm,hnn,beq_self_eq_true,bne_self_eq_false,ne_eq,not_true_eq_false,not_false_eq_true]
   exact ⟨(by simp (disch:=(first|omega|(simp only [qI,qJ,qK]<;>omega)|exact qL _)) only [go_sem,↓reduceIte,n0,reduceCtorEq,n1,n2,n3,n4,n5,i0,i1,i2,i3,i4,i5,i6,i7,Holds_nil,Holds_cons,h5,h8,h9,h1,h2,h11,h12,hm]),rfl⟩
  | false =>
   try simp (disch:=(first|omega|(simp only [qI,qJ,qK]<;>omega)|exact qL _)) only [go_sem,↓reduceIte,n0,reduceCtorEq,n1,n2,n3,n4,n5,i0,i1,i2,i3,i4,i5,i6,i7,hb03,hb23,h5,h8,h9,h1,h2,h11,h12,hm,beq_self_eq_true,bne_self_eq_false,ne_eq,not_true_eq_false,not_false_eq_true]
   exact ⟨(by simp (disch:=(first|omega|(simp only [qI,qJ,qK]<;>omega)|exact qL _)) only [go_sem,↓reduceIte,n0,reduceCtorEq,n1,n2,n3,n4,n5,i0,i1,i2,i3,i4,i5,i6,i7,Holds_nil,Holds_cons,h5,h8,h9,h1,h2,h11,h12,hm]),rfl⟩
 clear h5 h8 h9 h1 h2 h11 h12
 rintro ρ w4 ⟨⟨h5,h8,h9,h1,h2,h11,-,h46,-⟩,hw4⟩
 obtain rfl:=hw4.symm
 try simp (disch:=(first|omega|(simp only [qI,qJ,qK]<;>omega)|exact qL _)) only [go_sem,↓reduceIte,n0,reduceCtorEq,n1,n2,n3,n4,n5,i0,i1,i2,i3,i4,i5,i6,i7]
 cases hnul:nullS f ver t with
 | true =>
  repeat ((first|refine qA rfl ?_|apply qB|refine qC rfl ?_|apply qD|apply qE|apply qF|apply qG|apply qH);try simp (disch:=(first|omega|(simp only [qI,qJ,qK]<;>omega)|exact qL _)) only [go_sem,↓reduceIte,n0,reduceCtorEq,n1,n2,n3,n4,n5,i0,i1,i2,i3,i4,i5,i6,i7,h46,h11,hnul])
  all_goals exact hE03
 | false =>
  replace hd2:=hd2 hnul
  rw [if_neg h11k] at hd2
  unfold Told1 at hd2
  by_cases h8k:f.kind=8
  ·skip
   rw [if_pos (by omega)] at hd2
   repeat ((first|refine qA rfl ?_|apply qB|refine qC rfl ?_|apply qD|apply qE|apply qF|apply qG|apply qH);try simp (disch:=(first|omega|(simp only [qI,qJ,qK]<;>omega)|exact qL _)) only [go_sem,↓reduceIte,n0,reduceCtorEq,n1,n2,n3,n4,n5,i0,i1,i2,i3,i4,i5,i6,i7,h46,h11,hnul,h5,h8,h9,hb03,hb13,hb23])
   refine W.drawR (.take 0 (.take 1 (.take 2 (.take 3 (.only 4 (.only 5 (.only 6 .done))))))) NoB mixed (by kernel_rfl) ?_
   try simp (disch:=(first|omega|(simp only [qI,qJ,qK]<;>omega)|exact qL _)) only [go_sem,↓reduceIte,n0,reduceCtorEq,n1,n2,n3,n4,n5,i0,i1,i2,i3,i4,i5,i6,i7,h5,h8,h9,hb03,hb13,hb23]
   have hEd:Ext w3 w3.drew:=(Upd.refl _ _).drew
   have hE0d:=hE03.trans hEd
   generalize w3.drew=w5 at *
   refine (whole_fn (ok:=AnyB) t.s _ w5 (hS.keep (Ext.keeps hE0d _))).mono ?_
   rintro r6 w6 ⟨hr6,hw6⟩
   obtain rfl:=hw6.symm
   refine ⟨Upd.refl _ _,?_⟩
   have hg6:=hgS.keep (Ext.keeps hE0d _)
   rw [hd2] at hg6
   have hwl:(wholeS t.s).length≤32767:=by simp only [wholeS,List.length_take];omega
   try simp (disch:=(first|omega|(simp only [qI,qJ,qK]<;>omega)|exact qL _)) only [go_sem,↓reduceIte,n0,reduceCtorEq,n1,n2,n3,n4,n5,i0,i1,i2,i3,i4,i5,i6,i7]
   refine (Same_fn (ok:=AnyB) (wholeS t.s) (wholeS t.s) _ _ w5 hg6 hr6 (by omega)).mono ?_
   rintro _ w7 ⟨rfl,hE7⟩
   have hsame:decide (wholeS t.s=wholeS t.s)=true:=decide_eq_true rfl
   refine ⟨hE7,?_⟩
   try simp (disch:=(first|omega|(simp only [qI,qJ,qK]<;>omega)|exact qL _)) only [go_sem,↓reduceIte,n0,reduceCtorEq,n1,n2,n3,n4,n5,i0,i1,i2,i3,i4,i5,i6,i7,hsame]
   try refine ⟨hE7,?_⟩
   repeat ((first|refine qA rfl ?_|apply qB|refine qC rfl ?_|apply qD|apply qE|apply qF|apply qG|apply qH);try simp (disch:=(first|omega|(simp only [qI,qJ,qK]<;>omega)|exact qL _)) only [go_sem,↓reduceIte,n0,reduceCtorEq,n1,n2,n3,n4,n5,i0,i1,i2,i3,i4,i5,i6,i7,hsame])
   all_goals exact hE0d.trans hE7
  by_cases h9k:f.kind=9
  ·skip
   rw [if_pos (by omega)] at hd2
   repeat ((first|refine qA rfl ?_|apply qB|refine qC rfl ?_|apply qD|apply qE|apply qF|apply qG|apply qH);try simp (disch:=(first|omega|(simp only [qI,qJ,qK]<;>omega)|exact qL _)) only [go_sem,↓reduceIte,n0,reduceCtorEq,n1,n2,n3,n4,n5,i0,i1,i2,i3,i4,i5,i6,i7,h46,h11,hnul,h5,h8,h9,hb03,hb13,hb23])
   refine W.drawR (.take 0 (.take 1 (.take 2 (.take 3 (.only 4 (.only 5 (.only 6 .done))))))) NoB mixed (by kernel_rfl) ?_
   try simp (disch:=(first|omega|(simp only [qI,qJ,qK]<;>omega)|exact qL _)) only [go_sem,↓reduceIte,n0,reduceCtorEq,n1,n2,n3,n4,n5,i0,i1,i2,i3,i4,i5,i6,i7,h5,h8,h9,hb03,hb13,hb23]
   have hEd:Ext w3 w3.drew:=(Upd.refl _ _).drew
   have hE0d:=hE03.trans hEd
   generalize w3.drew=w5 at *
   refine (whole_fn (ok:=AnyB) t.s _ w5 (hS.keep (Ext.keeps hE0d _))).mono ?_
   rintro r6 w6 ⟨hr6,hw6⟩
   obtain rfl:=hw6.symm
   refine ⟨Upd.refl _ _,?_⟩
   have hg6:=hgS.keep (Ext.keeps hE0d _)
   rw [hd2] at hg6
   have hwl:(wholeS t.s).length≤32767:=by simp only [wholeS,List.length_take];omega
   try simp (disch:=(first|omega|(simp only [qI,qJ,qK]<;>omega)|exact qL _)) only [go_sem,↓reduceIte,n0,reduceCtorEq,n1,n2,n3,n4,n5,i0,i1,i2,i3,i4,i5,i6,i7]
   refine (Same_fn (ok:=AnyB) (wholeS t.s) (wholeS t.s) _ _ w5 hg6 hr6 (by omega)).mono ?_
   rintro _ w7 ⟨rfl,hE7⟩
   have hsame:decide (wholeS t.s=wholeS t.s)=true:=decide_eq_true rfl
   refine ⟨hE7,?_⟩
   try simp (disch:=(first|omega|(simp only [qI,qJ,qK]<;>omega)|exact qL _)) only [go_sem,↓reduceIte,n0,reduceCtorEq,n1,n2,n3,n4,n5,i0,i1,i2,i3,i4,i5,i6,i7,hsame]
   try refine ⟨hE7,?_⟩
   repeat ((first|refine qA rfl ?_|apply qB|refine qC rfl ?_|apply qD|apply qE|apply qF|apply qG|apply qH);try simp (disch:=(first|omega|(simp only [qI,qJ,qK]<;>omega)|exact qL _)) only [go_sem,↓reduceIte,n0,reduceCtorEq,n1,n2,n3,n4,n5,i0,i1,i2,i3,i4,i5,i6,i7,hsame])
   all_goals exact hE0d.trans hE7
  rw [if_neg (by omega)] at hd2
  by_cases h7k:f.kind=7
  ·skip
   rw [if_pos h7k] at hd2
   repeat ((first|refine qA rfl ?_|apply qB|refine qC rfl ?_|apply qD|apply qE|apply qF|apply qG|apply qH);try simp (disch:=(first|omega|(simp only [qI,qJ,qK]<;>omega)|exact qL _)) only [go_sem,↓reduceIte,n0,reduceCtorEq,n1,n2,n3,n4,n5,i0,i1,i2,i3,i4,i5,i6,i7,h46,h11,hnul,h5,h8,h9,hb03,hb13,hb23])
   refine wp_make (T:=22) (E:=5) (size:=1) (bytes:=1) (z:=.int .u8 0) (by kernel_rfl) (by kernel_rfl) (kl:=.i64) (kc:=.i64) (l:=16) (c:=16) (by first|rfl|(simp (disch:=(first|omega|(simp only [qI,qJ,qK]<;>omega)|exact qL _)) only [go_sem,↓reduceIte,n0,reduceCtorEq,n1,n2,n3,n4,n5,i0,i1,i2,i3,i4,i5,i6,i7];rfl)) (by first|rfl|(simp (disch:=(first|omega|(simp only [qI,qJ,qK]<;>omega)|exact qL _)) only [go_sem,↓reduceIte,n0,reduceCtorEq,n1,n2,n3,n4,n5,i0,i1,i2,i3,i4,i5,i6,i7];rfl)) (by omega) (by omega) (by omega) ?_
   rw [show (Value.int .u8 0).cells=#[Value.int .u8 0] from rfl,made_one]
   have hE5:Ext w3 (w3.alloc (.cells (List.replicate (16 * 1) (Value.int .u8 0)).toArray 5)):=Upd.alloc (Upd.refl _ _) _
   have hz5:(w3.alloc (.cells (List.replicate (16 * 1) (Value.int .u8 0)).toArray 5)).heap.size=w3.heap.size+1:=World.size_alloc _ _
   have hb5:blk (w3.alloc (.cells (List.replicate (16 * 1) (Value.int .u8 0)).toArray 5)) w3.heap.size=some ((List.replicate (16 * 1) (Value.int .u8 0)).toArray,5,(0,0)):=blk_alloc_new rfl
   try simp (disch:=(first|omega|(simp only [qI,qJ,qK]<;>omega)|exact qL _)) only [go_sem,↓reduceIte,n0,reduceCtorEq,n1,n2,n3,n4,n5,i0,i1,i2,i3,i4,i5,i6,i7]
   generalize (w3.alloc (.cells (List.replicate (16 * 1) (Value.int .u8 0)).toArray 5))=w5 at *
   have hb15:=hE5.blk_some hb13 id
   have hb25:=hE5.blk_some hb23 id
   repeat ((first|refine qA rfl ?_|apply qB|refine qC rfl ?_|apply qD|apply qE|apply qF|apply qG|apply qH);try simp (disch:=(first|omega|(simp only [qI,qJ,qK]<;>omega)|exact qL _)) only [go_sem,↓reduceIte,n0,reduceCtorEq,n1,n2,n3,n4,n5,i0,i1,i2,i3,i4,i5,i6,i7,h8,hb15])
   refine wp_copy (E:=5) (n:=16) (b:=w3.heap.size) (cap:=16) (m:=t.s.length) (c:=cS) (base:=bS) (s:=t.s) (xb:=((List.replicate (16 * 1) (Value.int .u8 0)).toArray,5,(0,0))) (by kernel_rfl) (by kernel_rfl) ?_ ?_ (hS.keep (Ext.keeps (hE03.trans hE5) _)) ?_ ?_ rfl ?_
   ·simp (disch:=(first|omega|(simp only [qI,qJ,qK]<;>omega)|exact qL _)) only [go_sem,↓reduceIte,n0,reduceCtorEq,n1,n2,n3,n4,n5,i0,i1,i2,i3,i4,i5,i6,i7]
   ·simp (disch:=(first|omega|(simp only [qI,qJ,qK]<;>omega)|exact qL _)) only [go_sem,↓reduceIte,n0,reduceCtorEq,n1,n2,n3,n4,n5,i0,i1,i2,i3,i4,i5,i6,i7]
   ·exact hb5
   ·simp
   intro v
   simp (disch:=(first|omega|(simp only [qI,qJ,qK]<;>omega)|exact qL _)) only [go_sem,↓reduceIte,n0,reduceCtorEq,n1,n2,n3,n4,n5,i0,i1,i2,i3,i4,i5,i6,i7]
   have hE6:Ext w3 (wr w5 w3.heap.size 0 ((t.s.take 16).map byteV)):=hE5.wr _ _ (.inl (Nat.le_refl _))
   have hb6:blk (wr w5 w3.heap.size 0 ((t.s.take 16).map byteV)) w3.heap.size=some (((uuidS t.s).map byteV).toArray,5,(0,0)):=by
    rw [blk_wr_eq,hb5,Option.map_some,wr16]
   have hb26:=hE6.blk_some hb23 id
   generalize (wr w5 w3.heap.size 0 ((t.s.take 16).map byteV))=w6 at *
   repeat ((first|refine qA rfl ?_|apply qB|refine qC rfl ?_|apply qD|apply qE|apply qF|apply qG|apply qH);try simp (disch:=(first|omega|(simp only [qI,qJ,qK]<;>omega)|exact qL _)) only [go_sem,↓reduceIte,n0,reduceCtorEq,n1,n2,n3,n4,n5,i0,i1,i2,i3,i4,i5,i6,i7,h9,hb26])
   have hv6:BytesV AnyB w6 (.slice (some ⟨w3.heap.size,0,none⟩) 16 16) (uuidS t.s):=bytes_at hb6 (uuidS_len _) fun i hi=>by simp only [Nat.zero_add,List.getElem?_toArray]
   have hg6:=hgS.keep (Ext.keeps (hE03.trans hE6) _)
   rw [hd2] at hg6
   refine (Same_fn (ok:=AnyB) (uuidS t.s) (uuidS t.s) _ _ w6 hg6 hv6 (by rw [uuidS_len];omega)).mono ?_
   rintro _ w7 ⟨rfl,hE7⟩
   have hsame:decide (uuidS t.s=uuidS t.s)=true:=decide_eq_true rfl
   repeat (first|simp (disch:=(first|omega|(simp only [qI,qJ,qK]<;>omega)|exact qL _)) only [go_sem,↓reduceIte,n0,reduceCtorEq,n1,n2,n3,n4,n5,i0,i1,i2,i3,i4,i5,i6,i7,hsame]|refine qA rfl ?_|apply qB|refine qC rfl ?_|apply qD|apply qE|apply qF|apply qG|apply qH)
   all_goals exact (hE03.trans hE6).trans hE7
  rw [if_neg h7k] at hd2
  by_cases h10k:f.kind=10
  ·skip
   rw [if_pos h10k] at hd2
   repeat ((first|refine qA rfl ?_|apply qB|refine qC rfl ?_|apply qD|apply qE|apply qF|apply qG|apply qH);try simp (disch:=(first|omega|(simp only [qI,qJ,qK]<;>omega)|exact qL _)) only [go_sem,↓reduceIte,n0,reduceCtorEq,n1,n2,n3,n4,n5,i0,i1,i2,i3,i4,i5,i6,i7,h46,h11,hnul,h5,h8,h9,h1,h2,hb03,hb13,hb23,f0,cellsAt_five])
   refine (hT t g vs _ _ w3 (hsub.keep (Ext.keeps hE03 _)) (ht.keep (Ext.keeps hE03 _)) (hg.keep (Ext.keeps hE03 _)) hsm hsg hd2).mono ?_
   rintro _ w5 ⟨rfl,hE5⟩
   repeat (first|simp (disch:=(first|omega|(simp only [qI,qJ,qK]<;>omega)|exact qL _)) only [go_sem,↓reduceIte,n0,reduceCtorEq,n1,n2,n3,n4,n5,i0,i1,i2,i3,i4,i5,i6,i7]|refine qA rfl ?_|apply qB|refine qC rfl ?_|apply qD|apply qE|apply qF|apply qG|apply qH)
   all_goals exact hE03.trans hE5
  rw [if_neg h10k] at hd2
  repeat ((first|refine qA rfl ?_|apply qB|refine qC rfl ?_|apply qD|apply qE|apply qF|apply qG|apply qH);try simp (disch:=(first|omega|(simp only [qI,qJ,qK]<;>omega)|exact qL _)) only [go_sem,↓reduceIte,n0,reduceCtorEq,n1,n2,n3,n4,n5,i0,i1,i2,i3,i4,i5,i6,i7,h46,h11,hnul,h5,h8,h9,hb03,hb13,hb23])
  refine W.drawR (.take 0 (.take 1 (.take 2 (.take 3 (.take 4 (.take 5 (.only 6 (.take 7 (.only 8 .done))))))))) NoB mixed (by kernel_rfl) ?_
  try simp (disch:=(first|omega|(simp only [qI,qJ,qK]<;>omega)|exact qL _)) only [go_sem,↓reduceIte,n0,reduceCtorEq,n1,n2,n3,n4,n5,i0,i1,i2,i3,i4,i5,i6,i7,h5,h8,h9,hb03,hb13,hb23]
  have hEd:Ext w3 w3.drew:=(Upd.refl _ _).drew
  have hE0d:=hE03.trans hEd
  generalize w3.drew=w5 at *
  refine (number_fn f.kind t.n w5).mono ?_
  rintro _ _ ⟨rfl,rfl⟩
  refine ⟨Upd.refl _ _,?_⟩
  try simp (disch:=(first|omega|(simp only [qI,qJ,qK]<;>omega)|exact qL _)) only [go_sem,↓reduceIte,n0,reduceCtorEq,n1,n2,n3,n4,n5,i0,i1,i2,i3,i4,i5,i6,i7,hd2,beq_self_eq_true,bne_self_eq_false,ne_eq,not_true_eq_false,not_false_eq_true]
  try refine ⟨Upd.refl _ _,?_⟩
  repeat ((first|refine qA rfl ?_|apply qB|refine qC rfl ?_|apply qD|apply qE|apply qF|apply qG|apply qH);try simp (disch:=(first|omega|(simp only [qI,qJ,qK]<;>omega)|exact qL _)) only [go_sem,↓reduceIte,n0,reduceCtorEq,n1,n2,n3,n4,n5,i0,i1,i2,i3,i4,i5,i6,i7,hd2,beq_self_eq_true,bne_self_eq_false,ne_eq,not_true_eq_false,not_false_eq_true])
  all_goals exact hE0d

theorem told_fn {T:List Fld→Tree→Tree→Prop} (f:Fld) (ver:Int) (flex:Bool) (t g:Tree) (cf ct cg:List Value) (w:World) (hf:FldC AnyB w f cf) (hB:okB f) (ht:TreeC AnyB w t ct) (hg:TreeC AnyB w g cg) (hsm:Small 4611686018427387903 t) (hsg:Small 4611686018427387903 g)
  (hT:∀ (x y:Tree) (vs:Value) (cx cy:List Value) (w':World),FldsV AnyB w' vs f.sub→TreeC AnyB w' x cx→TreeC AnyB w' y cy→Small 4611686018427387903 x→Small 4611686018427387903 y→T f.sub x y→Fn Tryz.prog 10 #[vs,.int .i64 ver,.bool flex,.agg cx.toArray,.agg cy.toArray] w' fun r w''=>r = .bool true∧Ext w' w'')
  (hd:ToldF T ver f t g) :
  Fn Tryz.prog 24 #[.agg cf.toArray,.int .i64 ver,.bool flex,.agg ct.toArray,.agg cg.toArray] w fun r w'=>r = .bool true∧Ext w w':=by
 by_cases h11k:f.kind=11
 rotate_left
 ·exact told_one f ver flex t g cf ct cg w hf hB ht hg hsm hsg hT hd h11k
 obtain ⟨vs,rfl,hsub⟩:=hf.inv
 obtain ⟨vS,vL,vU,rfl,hn,hS,hL,hU⟩:=ht.inv
 obtain ⟨gS,gL,gU,rfl,hgn,hgS,hgL,hgU⟩:=hg.inv
 have hl1:=hsm.s
 have hl2:=hsm.l
 have hl3:=hsg.s
 have hl4:=hsg.l
 have f0:=SlR.flat hsub
 have f1:=hS.flat
 have f2:=SlR.flat hL
 have f3:=SlR.flat hU
 have k1:=hgS.flat
 have k2:=SlR.flat hgL
 have k3:=SlR.flat hgU
 obtain ⟨bG,cG,rfl,hcG⟩:=SlR.shape hgL
 obtain ⟨bS,cS,rfl,hcS⟩:=hS.shape
 have hE:Ext w (((w.alloc (.cells #[.int .i64 f.kind,.int .i64 f.fr,.int .i64 f.to,.int .i64 f.null,.int .i64 f.tag,.int .i64 f.df,.int .i64 f.of,vs] 51)).alloc (.cells #[.int .i64 t.n,.slice bS t.s.length cS,.bool t.null,vL,vU] 26)).alloc (.cells #[.int .i64 g.n,gS,.bool g.null,.slice bG g.l.length cG,gU] 26)):=Upd.alloc (Upd.alloc (Upd.alloc (Upd.refl _ _) _) _) _
 refine fn_of_W Tryz.func24 rfl Tryz.results24 Tryz.ntmps24 rfl ?_
 repeat ((first|refine qA rfl ?_|apply qB|refine qC rfl ?_|apply qD|apply qE|apply qF|apply qG|apply qH);try simp (disch:=(first|omega|(simp only [qI,qJ,qK]<;>omega)|exact qL _)) only [go_sem,↓reduceIte,n0,reduceCtorEq,n1,n2,n3,n4,n5,i0,i1,i2,i3,i4,i5,i6,i7,f0,f1,f2,f3,k1,k2,k3,cellsAt_five,cellsAt_eight])
 have hb0:blk (((w.alloc (.cells #[.int .i64 f.kind,.int .i64 f.fr,.int .i64 f.to,.int .i64 f.null,.int .i64 f.tag,.int .i64 f.df,.int .i64 f.of,vs] 51)).alloc (.cells #[.int .i64 t.n,.slice bS t.s.length cS,.bool t.null,vL,vU] 26)).alloc (.cells #[.int .i64 g.n,gS,.bool g.null,.slice bG g.l.length cG,gU] 26)) w.heap.size=some (#[.int .i64 f.kind,.int .i64 f.fr,.int .i64 f.to,.int .i64 f.null,.int .i64 f.tag,.int .i64 f.df,.int .i64 f.of,vs],51,(0,0)):=by simp (disch:=(first|omega|(simp only [qI,qJ,qK]<;>omega)|exact qL _)) only [go_sem,↓reduceIte,n0,reduceCtorEq,n1,n2,n3,n4,n5,i0,i1,i2,i3,i4,i5,i6,i7]
 have hb1:blk (((w.alloc (.cells #[.int .i64 f.kind,.int .i64 f.fr,.int .i64 f.to,.int .i64 f.null,.int .i64 f.tag,.int .i64 f.df,.int .i64 f.of,vs] 51)).alloc (.cells #[.int .i64 t.n,.slice bS t.s.length cS,.bool t.null,vL,vU] 26)).alloc (.cells #[.int .i64 g.n,gS,.bool g.null,.slice bG g.l.length cG,gU] 26)) (w.heap.size+1)=some (#[.int .i64 t.n,.slice bS t.s.length cS,.bool t.null,vL,vU],26,(0,0)):=by simp (disch:=(first|omega|(simp only [qI,qJ,qK]<;>omega)|exact qL _)) only [go_sem,↓reduceIte,n0,reduceCtorEq,n1,n2,n3,n4,n5,i0,i1,i2,i3,i4,i5,i6,i7]
 have hb2:blk (((w.alloc (.cells #[.int .i64 f.kind,.int .i64 f.fr,.int .i64 f.to,.int .i64 f.null,.int .i64 f.tag,.int .i64 f.df,.int .i64 f.of,vs] 51)).alloc (.cells #[.int .i64 t.n,.slice bS t.s.length cS,.bool t.null,vL,vU] 26)).alloc (.cells #[.int .i64 g.n,gS,.bool g.null,.slice bG g.l.length cG,gU] 26)) (w.heap.size+2)=some (#[.int .i64 g.n,gS,.bool g.null,.slice bG g.l.length cG,gU],26,(0,0)):=by simp (disch:=(first|omega|(simp only [qI,qJ,qK]<;>omega)|exact qL _)) only [go_sem,↓reduceIte,n0,reduceCtorEq,n1,n2,n3,n4,n5,i0,i1,i2,i3,i4,i5,i6,i7]
 have hz2:(((w.alloc (.cells #[.int .i64 f.kind,.int .i64 f.fr,.int .i64 f.to,.int .i64 f.null,.int .i64 f.tag,.int .i64 f.df,.int .i64 f.of,vs] 51)).alloc (.cells #[.int .i64 t.n,.slice bS t.s.length cS,.bool t.null,vL,vU] 26)).alloc (.cells #[.int .i64 g.n,gS,.bool g.null,.slice bG g.l.length cG,gU] 26)).heap.size=w.heap.size+3:=by simp only [World.size_alloc]
 generalize (((w.alloc (.cells #[.int .i64 f.kind,.int .i64 f.fr,.int .i64 f.to,.int .i64 f.null,.int .i64 f.tag,.int .i64 f.df,.int .i64 f.of,vs] 51)).alloc (.cells #[.int .i64 t.n,.slice bS t.s.length cS,.bool t.null,vL,vU] 26)).alloc (.cells #[.int .i64 g.n,gS,.bool g.null,.slice bG g.l.length cG,gU] 26))=w2 at *
 refine (Null_fn (ok:=AnyB) f ver t _ _ w2 (FldC.of (hsub.keep (Ext.keeps hE _))) (ht.keep (Ext.keeps hE _))).mono ?_
 rintro _ w3 ⟨rfl,hE3⟩
 have hE03:Ext w w3:=hE.trans hE3
 have hz3:=hE3.size
 have hb03:=hE3.blk_some hb0 id
 have hb13:=hE3.blk_some hb1 id
 have hb23:=hE3.blk_some hb2 id
 clear hb0 hb1 hb2
 try simp (disch:=(first|omega|(simp only [qI,qJ,qK]<;>omega)|exact qL _)) only [go_sem,↓reduceIte,n0,reduceCtorEq,n1,n2,n3,n4,n5,i0,i1,i2,i3,i4,i5,i6,i7]
 repeat refine W.seq ?_
 refine W.normJ (EndQ [(5,.pointer (some ⟨w.heap.size,0,none⟩)),(8,.pointer (some ⟨w.heap.size+1,0,none⟩)),(9,.pointer (some ⟨w.heap.size+2,0,none⟩)),(1,.int .i64 ver),(2,.bool flex),(11,.bool (nullS f ver t)),(12,.bool (mayS f ver))] (fun w'=>w'=w3)) ?_ ?_
 ·skip
  refine W.regR rfl ?_
  by_cases hm1:0≤f.null
  ·by_cases hm2:f.null≤ver
   ·have hm:mayS f ver=true:=by simp [mayS,hm1,hm2]
    try simp (disch:=(first|omega|(simp only [qI,qJ,qK]<;>omega)|exact qL _)) only [go_sem,↓reduceIte,n0,reduceCtorEq,n1,n2,n3,n4,n5,i0,i1,i2,i3,i4,i5,i6,i7,hb03]
    exact ⟨(by simp (disch:=(first|omega|(simp only [qI,qJ,qK]<;>omega)|exact qL _)) only [go_sem,↓reduceIte,n0,reduceCtorEq,n1,n2,n3,n4,n5,i0,i1,i2,i3,i4,i5,i6,i7,Holds_nil,Holds_cons,hm]),rfl⟩
   ·have hm:mayS f ver=false:=by simp [mayS,hm2]
    try simp (disch:=(first|omega|(simp only [qI,qJ,qK]<;>omega)|exact qL _)) only [go_sem,↓reduceIte,n0,reduceCtorEq,n1,n2,n3,n4,n5,i0,i1,i2,i3,i4,i5,i6,i7,hb03]
    exact ⟨(by simp (disch:=(first|omega|(simp only [qI,qJ,qK]<;>omega)|exact qL _)) only [go_sem,↓reduceIte,n0,reduceCtorEq,n1,n2,n3,n4,n5,i0,i1,i2,i3,i4,i5,i6,i7,Holds_nil,Holds_cons,hm]),rfl⟩
  ·have hm:mayS f ver=false:=by simp [mayS,hm1]
   try simp (disch:=(first|omega|(simp only [qI,qJ,qK]<;>omega)|exact qL _)) only [go_sem,↓reduceIte,n0,reduceCtorEq,n1,n2,n3,n4,n5,i0,i1,i2,i3,i4,i5,i6,i7,hb03]
   exact ⟨(by simp (disch:=(first|omega|(simp only [qI,qJ,qK]<;>omega)|exact qL _)) only [go_sem,↓reduceIte,n0,reduceCtorEq,n1,n2,n3,n4,n5,i0,i1,i2,i3,i4,i5,i6,i7,Holds_nil,Holds_cons,hm]),rfl⟩
 rintro ρ w4 ⟨⟨h5,h8,h9,h1,h2,h11,h12,-⟩,hw4⟩
 obtain rfl:=hw4.symm
 try simp (disch:=(first|omega|(simp only [qI,qJ,qK]<;>omega)|exact qL _)) only [go_sem,↓reduceIte,n0,reduceCtorEq,n1,n2,n3,n4,n5,i0,i1,i2,i3,i4,i5,i6,i7]
 obtain ⟨hd1,hd2⟩:=hd
 repeat refine W.seq ?_
 refine W.normJ (EndQ [(5,.pointer (some ⟨w.heap.size,0,none⟩)),(8,.pointer (some ⟨w.heap.size+1,0,none⟩)),(9,.pointer (some ⟨w.heap.size+2,0,none⟩)),(1,.int .i64 ver),(2,.bool flex),(11,.bool (nullS f ver t)),(12,.bool (mayS f ver)),(46,.bool false)] (fun w'=>w'=w3)) ?_ ?_
 ·skip
  refine W.regR rfl ?_
  by_cases h8k:f.kind=8
  ·have hnn:=hd1 (by omega)
   try simp (disch:=(first|omega|(simp only [qI,qJ,qK]<;>omega)|exact qL _)) only [go_sem,↓reduceIte,n0,reduceCtorEq,n1,n2,n3,n4,n5,i0,i1,i2,i3,i4,i5,i6,i7,hb03,hb23,h5,h8,h9,h1,h2,h11,h12,h8k,hnn,beq_self_eq_true,bne_self_eq_false,ne_eq,not_true_eq_false,not_false_eq_true]
   exact ⟨(by simp (disch:=(first|omega|(simp only [qI,qJ,qK]<;>omega)|exact qL _)) only [go_sem,↓reduceIte,n0,reduceCtorEq,n1,n2,n3,n4,n5,i0,i1,i2,i3,i4,i5,i6,i7,Holds_nil,Holds_cons,h5,h8,h9,h1,h2,h11,h12]),rfl⟩
  by_cases h10k:f.kind=10
  ·have hnn:=hd1 (by omega)
   try simp (disch:=(first|omega|(simp only [qI,qJ,qK]<;>omega)|exact qL _)) only [go_sem,↓reduceIte,n0,reduceCtorEq,n1,n2,n3,n4,n5,i0,i1,i2,i3,i4,i5,i6,i7,hb03,hb23,h5,h8,h9,h1,h2,h11,h12,h10k,hnn,beq_self_eq_true,bne_self_eq_false,ne_eq,not_true_eq_false,not_false_eq_true]
   exact ⟨(by simp (disch:=(first|omega|(simp only [qI,qJ,qK]<;>omega)|exact qL _)) only [go_sem,↓reduceIte,n0,reduceCtorEq,n1,n2,n3,n4,n5,i0,i1,i2,i3,i4,i5,i6,i7,Holds_nil,Holds_cons,h5,h8,h9,h1,h2,h11,h12]),rfl⟩
  cases hm:mayS f ver with
  | true =>
   have hnn:=hd1 (.inr (.inr hm))
   try simp (disch:=(first|omega|(simp only [qI,qJ,qK]<;>omega)|exact qL _)) only [go_sem,↓reduceIte,n0,reduceCtorEq,n1,n2,n3,n4,n5,i0,i1,i2,i3,i4,i5,i6,i7,hb03,hb23,h5,h8,h9,h1,h2,h11,h12,hm,hnn,beq_self_eq_true,bne_self_eq_false,ne_eq,not_true_eq_false,not_false_eq_true]
   exact ⟨(by simp (disch:=(first|omega|(simp only [qI,qJ,qK]<;>omega)|exact qL _)) only [go_sem,↓reduceIte,n0,reduceCtorEq,n1,n2,n3,n4,n5,i0,i1,i2,i3,i4,i5,i6,i7,Holds_nil,Holds_cons,h5,h8,h9,h1,h2,h11,h12,hm]),rfl⟩
  | false =>
   try simp (disch:=(first|omega|(simp only [qI,qJ,qK]<;>omega)|exact qL _)) only [go_sem,↓reduceIte,n0,reduceCtorEq,n1,n2,n3,n4,n5,i0,i1,i2,i3,i4,i5,i6,i7,hb03,hb23,h5,h8,h9,h1,h2,h11,h12,hm,beq_self_eq_true,bne_self_eq_false,ne_eq,not_true_eq_false,not_false_eq_true]
   exact ⟨(by simp (disch:=(first|omega|(simp only [qI,qJ,qK]<;>omega)|exact qL _)) only [go_sem,↓reduceIte,n0,reduceCtorEq,n1,n2,n3,n4,n5,i0,i1,i2,i3,i4,i5,i6,i7,Holds_nil,Holds_cons,h5,h8,h9,h1,h2,h11,h12,hm]),rfl⟩
 clear h5 h8 h9 h1 h2 h11 h12
 rintro ρ w4 ⟨⟨h5,h8,h9,h1,h2,h11,-,h46,-⟩,hw4⟩
 obtain rfl:=hw4.symm
 try simp (disch:=(first|omega|(simp only [qI,qJ,qK]<;>omega)|exact qL _)) only [go_sem,↓reduceIte,n0,reduceCtorEq,n1,n2,n3,n4,n5,i0,i1,i2,i3,i4,i5,i6,i7]
 cases hnul:nullS f ver t with
 | true =>
  repeat ((first|refine qA rfl ?_|apply qB|refine qC rfl ?_|apply qD|apply qE|apply qF|apply qG|apply qH);try simp (disch:=(first|omega|(simp only [qI,qJ,qK]<;>omega)|exact qL _)) only [go_sem,↓reduceIte,n0,reduceCtorEq,n1,n2,n3,n4,n5,i0,i1,i2,i3,i4,i5,i6,i7,h46,h11,hnul])
  all_goals exact hE03
 | false =>
  replace hd2:=hd2 hnul
  rw [if_pos h11k] at hd2
  obtain ⟨hlen,hel⟩:=hd2
  repeat ((first|refine qA rfl ?_|apply qB|refine qC rfl ?_|apply qD|apply qE|apply qF|apply qG|apply qH);try simp (disch:=(first|omega|(simp only [qI,qJ,qK]<;>omega)|exact qL _)) only [go_sem,↓reduceIte,n0,reduceCtorEq,n1,n2,n3,n4,n5,i0,i1,i2,i3,i4,i5,i6,i7,h46,h11,hnul,h5,h8,h9,hb03,hb13,hb23])
  refine (things_fn (ok:=AnyB) t.l _ w3 (hL.keep (Ext.keeps hE03 _))).mono ?_
  rintro r4 w4 ⟨hL4,hw4⟩
  obtain rfl:=hw4.symm
  obtain ⟨bl,cl,rfl,hcl⟩:=SlR.shape hL4
  have hlt:(thingsS t.l).length≤32767:=by simp only [thingsS,List.length_take];omega
  have hsml:∀ x∈thingsS t.l,Small 4611686018427387903 x:=fun x hx=>by
   obtain ⟨i,hi,rfl⟩:=List.getElem_of_mem (List.mem_of_mem_take hx)
   exact hsm.e i hi
  generalize thingsS t.l=L at *
  have hlen':((g.l.length:Nat):Int)=(L.length:Nat):=by rw [hlen]
  have hgl:∀ i (h:i < L.length),∃ (h':i < g.l.length),g.at i=g.l[i]:=fun i h=>⟨by omega,Tree.at_lt (by omega)⟩
  have hE4:Ext w3 (wr (wr (wr (wr (w3.alloc (.cells #[.int .i64 0,.int .i64 0,.int .i64 0,.int .i64 0,.int .i64 0,.int .i64 0,.int .i64 0,.slice none 0 0] 51)) w3.heap.size 0 [.int .i64 f.kind,.int .i64 f.fr,.int .i64 f.to,.int .i64 f.null,.int .i64 f.tag,.int .i64 f.df,.int .i64 f.of,vs]) w3.heap.size 0 [.int .i64 f.of]) w3.heap.size 3 [.int .i64 (-1)]) w3.heap.size 4 [.int .i64 (-1)]):=(((((Upd.refl _ _).alloc _).wr _ _ (.inl (Nat.le_refl _))).wr _ _ (.inl (Nat.le_refl _))).wr _ _ (.inl (Nat.le_refl _))).wr _ _ (.inl (Nat.le_refl _))
  have hb4:blk (wr (wr (wr (wr (w3.alloc (.cells #[.int .i64 0,.int .i64 0,.int .i64 0,.int .i64 0,.int .i64 0,.int .i64 0,.int .i64 0,.slice none 0 0] 51)) w3.heap.size 0 [.int .i64 f.kind,.int .i64 f.fr,.int .i64 f.to,.int .i64 f.null,.int .i64 f.tag,.int .i64 f.df,.int .i64 f.of,vs]) w3.heap.size 0 [.int .i64 f.of]) w3.heap.size 3 [.int .i64 (-1)]) w3.heap.size 4 [.int .i64 (-1)]) w3.heap.size=some (#[.int .i64 f.of,.int .i64 f.fr,.int .i64 f.to,.int .i64 (-1),.int .i64 (-1),.int .i64 f.df,.int .i64 f.of,vs],51,(0,0)):=by simp (disch:=(first|omega|(simp only [qI,qJ,qK]<;>omega)|exact qL _)) only [go_sem,↓reduceIte,n0,reduceCtorEq,n1,n2,n3,n4,n5,i0,i1,i2,i3,i4,i5,i6,i7]
  have hz4:(wr (wr (wr (wr (w3.alloc (.cells #[.int .i64 0,.int .i64 0,.int .i64 0,.int .i64 0,.int .i64 0,.int .i64 0,.int .i64 0,.slice none 0 0] 51)) w3.heap.size 0 [.int .i64 f.kind,.int .i64 f.fr,.int .i64 f.to,.int .i64 f.null,.int .i64 f.tag,.int .i64 f.df,.int .i64 f.of,vs]) w3.heap.size 0 [.int .i64 f.of]) w3.heap.size 3 [.int .i64 (-1)]) w3.heap.size 4 [.int .i64 (-1)]).heap.size=w3.heap.size+1:=by simp only [size_wr,World.size_alloc]
  try simp (disch:=(first|omega|(simp only [qI,qJ,qK]<;>omega)|exact qL _)) only [go_sem,↓reduceIte,n0,reduceCtorEq,n1,n2,n3,n4,n5,i0,i1,i2,i3,i4,i5,i6,i7]
  repeat ((first|refine qA rfl ?_|apply qB|refine qC rfl ?_|apply qD|apply qE|apply qF|apply qG|apply qH);try simp (disch:=(first|omega|(simp only [qI,qJ,qK]<;>omega)|exact qL _)) only [go_sem,↓reduceIte,n0,reduceCtorEq,n1,n2,n3,n4,n5,i0,i1,i2,i3,i4,i5,i6,i7,h5,h9,hb03,hb23,f0,hlen',cellsAt_eight,beq_self_eq_true,bne_self_eq_false,ne_eq,not_true_eq_false,not_false_eq_true])
  generalize (wr (wr (wr (wr (w3.alloc (.cells #[.int .i64 0,.int .i64 0,.int .i64 0,.int .i64 0,.int .i64 0,.int .i64 0,.int .i64 0,.slice none 0 0] 51)) w3.heap.size 0 [.int .i64 f.kind,.int .i64 f.fr,.int .i64 f.to,.int .i64 f.null,.int .i64 f.tag,.int .i64 f.df,.int .i64 f.of,vs]) w3.heap.size 0 [.int .i64 f.of]) w3.heap.size 3 [.int .i64 (-1)]) w3.heap.size 4 [.int .i64 (-1)])=w4 at *
  have hE04:=hE03.trans hE4
  have hb24:=hE4.blk_some hb23 id
  have hof:0≤f.of∧f.of≤10:=⟨hB.2.2.2.2.2.2.1,hB.2.2.2.2.2.2.2⟩
  refine W.loop (LoopL [(97,.int .i64 L.length),(14,.slice bl L.length cl),(15,.pointer (some ⟨w3.heap.size,0,none⟩)),(9,.pointer (some ⟨w.heap.size+2,0,none⟩)),(1,.int .i64 ver),(2,.bool flex)] 98 (fun j w'=>j≤L.length∧Ext w4 w')) (fun ρ _=>L.length - (RowKit.intOf (ρ 98)).toNat) ?_ ?_
  ·exact ⟨(by simp (disch:=(first|omega|(simp only [qI,qJ,qK]<;>omega)|exact qL _)) only [go_sem,↓reduceIte,n0,reduceCtorEq,n1,n2,n3,n4,n5,i0,i1,i2,i3,i4,i5,i6,i7,Holds_nil,Holds_cons,h9,h1,h2]),0,(by simp (disch:=(first|omega|(simp only [qI,qJ,qK]<;>omega)|exact qL _)) only [go_sem,↓reduceIte,n0,reduceCtorEq,n1,n2,n3,n4,n5,i0,i1,i2,i3,i4,i5,i6,i7];all_goals rfl),Nat.zero_le _,Upd.refl _ _⟩
  clear h5 h8 h9 h1 h2 h11 h46
  rintro ρ w5 ⟨⟨h97,h14,h15,h9,h1,h2,-⟩,j,h98,hj,hE5⟩
  have hz5:=hE5.size
  have hE05:=hE04.trans hE5
  by_cases hlt2:j < L.length
  ·skip
   obtain ⟨hjg,hatg⟩:=hgl j hlt2
   obtain ⟨hdn,hd1'⟩:=hel j hlt2
   rw [hatg] at hdn hd1'
   obtain ⟨_,b,o,x,vS',vL',vU',hb,hokb,hx,hblt,hxs,hxe,g1,g2,g3,hc⟩:=TreesV.get hL4 hlt2
   subst hb
   obtain ⟨_,b',o',x',uS',uL',uU',hb',hokb',hx',hblt',hxs',hxe',q1,q2,q3,hc'⟩:=TreesV.get hgL hjg
   subst hb'
   have hx5:blk w5 b=some x:=(hE4.trans hE5).blk_some hx id
   have hx5':blk w5 b'=some x':=hE05.blk_some hx' id
   have hb45:=hE5.blk_some hb4 id
   have hb25:=hE5.blk_some hb24 id
   have hs1:=hsml L[j] (List.getElem_mem hlt2)
   have hs2:=hsg.e j hjg
   generalize L[j] = y at *
   generalize g.l[j] = z at *
   repeat ((first|refine qA rfl ?_|apply qB|refine qC rfl ?_|apply qD|apply qE|apply qF|apply qG|apply qH);try simp (disch:=(first|omega|(simp only [qI,qJ,qK]<;>omega)|exact qL _)) only [go_sem,↓reduceIte,n0,reduceCtorEq,n1,n2,n3,n4,n5,i0,i1,i2,i3,i4,i5,i6,i7,h98,h97])
   refine W.drawR (.take 0 (.take 1 (.take 2 (.take 3 (.take 4 (.take 5 (.take 6 (.take 7 (.take 8 (.take 9 (.take 10 (.take 11 (.only 12 (.take 13 .done)))))))))))))) NoB mixed (by kernel_rfl) ?_
   try simp (disch:=(first|omega|(simp only [qI,qJ,qK]<;>omega)|exact qL _)) only [go_sem,↓reduceIte,n0,reduceCtorEq,n1,n2,n3,n4,n5,i0,i1,i2,i3,i4,i5,i6,i7,h98,h14,h15,h9,h1,h2,hx5,hx5',hxe,hxe',g1,g2,g3,q1,q2,q3,hb45,hb25,cellsAt_five,cellsAt_eight,Int.toNat_natCast]
   have hEd:Ext w5 w5.drew:=(Upd.refl _ _).drew
   have hE0d:=hE05.trans hEd
   have hE3d:=(hE4.trans hE5).trans hEd
   refine (told_one (T:=T) (.mk f.of f.fr f.to (-1) (-1) f.df f.of f.sub) ver flex y z _ _ _ w5.drew (FldC.intro (hsub.keep (Ext.keeps hE0d _))) ⟨hof.1,Int.le_trans hof.2 (by decide),Int.le_refl (-1),(by decide:(-1:Int)≤1000),hB.2.2.2.2.1,hB.2.2.2.2.2.1,hof.1,hof.2⟩ (hc.keep (Ext.keeps hE3d _)) (hc'.keep (Ext.keeps hE0d _)) hs1 hs2 hT ?_ (by simp only [Fld.kind];omega)).mono ?_
   ·have hnf:nullS (.mk f.of f.fr f.to (-1) (-1) f.df f.of f.sub) ver y=false:=by simp [nullS,Fld.null]
    have hmf:mayS (.mk f.of f.fr f.to (-1) (-1) f.df f.of f.sub) ver=false:=by simp [mayS,Fld.null]
    refine ⟨fun h => ?_,fun _ => ?_⟩
    ·rw [hmf] at h
     rw [hnf]
     exact hdn (by rcases h with h|h|h<;>first|exact .inl h|exact .inr h|cases h)
    ·rw [if_neg (by simp only [Fld.kind];omega)];exact hd1'
   rintro _ w6 ⟨rfl,hE6⟩
   refine ⟨hE6,?_⟩
   try simp (disch:=(first|omega|(simp only [qI,qJ,qK]<;>omega)|exact qL _)) only [go_sem,↓reduceIte,n0,reduceCtorEq,n1,n2,n3,n4,n5,i0,i1,i2,i3,i4,i5,i6,i7]
   repeat ((first|refine qA rfl ?_|apply qB|refine qC rfl ?_|apply qD|apply qE|apply qF|apply qG|apply qH);try simp (disch:=(first|omega|(simp only [qI,qJ,qK]<;>omega)|exact qL _)) only [go_sem,↓reduceIte,n0,reduceCtorEq,n1,n2,n3,n4,n5,i0,i1,i2,i3,i4,i5,i6,i7,h98])
   refine ⟨⟨(by simp (disch:=(first|omega|(simp only [qI,qJ,qK]<;>omega)|exact qL _)) only [go_sem,↓reduceIte,n0,reduceCtorEq,n1,n2,n3,n4,n5,i0,i1,i2,i3,i4,i5,i6,i7,Holds_nil,Holds_cons,h97,h14,h15,h9,h1,h2]),j+1,(by simp (disch:=(first|omega|(simp only [qI,qJ,qK]<;>omega)|exact qL _)) only [go_sem,↓reduceIte,n0,reduceCtorEq,n1,n2,n3,n4,n5,i0,i1,i2,i3,i4,i5,i6,i7,h98];all_goals rfl),by omega,(hE5.trans hEd).trans hE6⟩,?_⟩
   try simp (disch:=(first|omega|(simp only [qI,qJ,qK]<;>omega)|exact qL _)) only [go_sem,↓reduceIte,n0,reduceCtorEq,n1,n2,n3,n4,n5,i0,i1,i2,i3,i4,i5,i6,i7,h98]
   simp only [RowKit.intOf]
   omega
  repeat ((first|refine qA rfl ?_|apply qB|refine qC rfl ?_|apply qD|apply qE|apply qF|apply qG|apply qH);try simp (disch:=(first|omega|(simp only [qI,qJ,qK]<;>omega)|exact qL _)) only [go_sem,↓reduceIte,n0,reduceCtorEq,n1,n2,n3,n4,n5,i0,i1,i2,i3,i4,i5,i6,i7,h98,h97])
  all_goals exact hE05
end Ms

namespace Ms
open Nat renaming reduceEqDiff → n0,reduceAdd → n1,reduceMul → n2,reduceSub → n3,reduceLT → n4,reduceLeDiff → n5
open Int renaming reduceEq → i0,reduceLT → i1,reduceLE → i2,reduceNeg → i3,reduceAdd → i4,reduceSub → i5,reduceMul → i6,reduceToNat → i7
set_option maxRecDepth 8000
open Go Go.Proofs Go.Shelf
attribute [local congr] W_congr WPsq_congr WPp_congr optK_congr addrK_congr intK_congr boolK_congr sliceK_congr tupleK_congr funcK_congr Fn_congr rawK_congr takeK_congr stepK_congr convK_congr aggK_congr

def Plan.pre : Nat→Plan→Plan→Plan
 | k+1,.take i r,d=>.take i (Plan.pre k r d)
 | k+1,.only i r,d=>.only i (Plan.pre k r d)
 | _,_,d=>d
def Plan.drop : Nat→Plan→Plan
 | k+1,.take _ r=>Plan.drop k r
 | k+1,.only _ r=>Plan.drop k r
 | _,p=>p
theorem Plan.pre_drop : ∀ (k:Nat) (p:Plan),Plan.pre k p (Plan.drop k p)=p
 | 0,p=>by cases p<;>rfl
 | k+1,.take i r=>congrArg (Plan.take i) (Plan.pre_drop k r)
 | k+1,.only i r=>congrArg (Plan.only i) (Plan.pre_drop k r)
 | k+1,.done=>rfl
 | k+1,.last _=>rfl
 | k+1,.two ..=>rfl
theorem W.drawO {P:Program} {n id:Nat} {ops:Array Oper} {Q:Exit→Regs→World→Prop} {ρ:Regs} {w:World} (p:Plan) (k:Nat) (M:Nat→Prop) (hm:P.follows .mixedOrders=true)
  (hc:(Region.noSelect ops && fitsL n ops.toList && (p.ok ops (Array.replicate ops.size false) && Nat.ble p.len ops.size))=true)
  (h:∀ DD,DD=Plan.drop k p→WPp P ops M w.drew (Plan.pre k p DD) (Q .normal) ρ w.drew):W P n (.region id ops true) Q ρ w:=by
 have:=h _ rfl
 rw [Plan.pre_drop] at this
 exact W.drawR p M hm hc this

end Ms

