/- A part of the proof: see the last text. -/
import Derived.Test.YtfeaoncgnhhjbaeGreatDoorC01
import Derived.Test.YtfeaoncgnhhjbaeGreatDoorC02
set_option linter.unusedSimpArgs false
set_option linter.unusedVariables false
namespace Ms
open Go.World renaming size_alloc → qI
open Ms renaming size_wr → qJ,size_drew → qK,not_noB → qL
open W renaming seqF → qA,seq → qB,regF → qC,condK → qD,block → qE,skip → qF,ret → qG,exit → qH
set_option maxRecDepth 4000
open Go Go.Proofs
attribute [local congr] W_congr WPsq_congr WPp_congr optK_congr addrK_congr intK_congr boolK_congr sliceK_congr tupleK_congr funcK_congr Fn_congr rawK_congr takeK_congr stepK_congr convK_congr aggK_congr

end Ms

namespace Ms
set_option maxRecDepth 4000
open Go Go.Proofs
attribute [local congr] W_congr WPsq_congr WPp_congr optK_congr addrK_congr intK_congr boolK_congr sliceK_congr tupleK_congr funcK_congr Fn_congr rawK_congr takeK_congr stepK_congr convK_congr aggK_congr

end Ms

namespace Ms
open Go.World renaming size_alloc → qI
open Ms renaming size_wr → qJ,size_drew → qK,not_noB → qL
open W renaming seqF → qA,seq → qB,regF → qC,condK → qD,block → qE,skip → qF,ret → qG,exit → qH
set_option maxRecDepth 4000
open Go Go.Proofs
attribute [local congr] W_congr WPsq_congr WPp_congr optK_congr addrK_congr intK_congr boolK_congr sliceK_congr tupleK_congr funcK_congr Fn_congr rawK_congr takeK_congr stepK_congr convK_congr aggK_congr

theorem BytesV.get {ok:Blocks} {w:World} {base:Option Addr} {n cap:Nat} {s:List UInt8} (h:BytesV ok w (.slice base n cap) s) {i:Nat} (hi:i < s.length) :
  n=s.length∧∃ b o x,base=some ⟨b,o,none⟩∧ok b∧blk w b=some x∧b < w.heap.size∧x.1[o+i]? = some (byteV s[i]):=by
 obtain ⟨h1,b,o,x,h2,h3,h4,h5,h6,h7⟩:=Sl.get (by omega) h (i:=i) (by simpa using hi)
 refine ⟨by simpa using h1,b,o,x,h2,h3,h4,blk_lt h4,?_⟩
 have:=h7 0 (by omega)
 simpa using this
theorem BytesV.shape {ok:Blocks} {w:World} {v:Value} {s:List UInt8} (h:BytesV ok w v s):∃ base cap,v = .slice base s.length cap∧s.length≤cap:=by
 obtain ⟨b,c,h1,h2,_⟩:=h
 exact ⟨b,c,by simpa using h1,by simpa using h2⟩
theorem take_snoc {a b:List UInt8} {j:Nat} (h:a.take j=b.take j) (ha:j < a.length) (hb:j < b.length) (he:a[j] = b[j]):a.take (j+1)=b.take (j+1):=by
 rw [List.take_succ_eq_append_getElem ha,List.take_succ_eq_append_getElem hb,h,he]
theorem byte_eq {x y:UInt8} (h:((x.toNat:Int) != (y.toNat:Int))=false):x=y:=by
 have:(x.toNat:Int)=y.toNat:=by simpa using h
 exact UInt8.toNat_inj.1 (by omega)

theorem Same_fn {ok:Blocks} (a b:List UInt8) (va vb:Value) (w:World) (ha:BytesV ok w va a) (hb:BytesV ok w vb b) (hla:a.length < 4611686018427387904) :
  Fn Tryz.prog 77 #[va,vb] w fun v w'=>v = .bool (decide (a=b))∧Ext w w':=by
 obtain ⟨ba,ca,rfl,hca⟩:=ha.shape
 obtain ⟨bb,cb,rfl,hcb⟩:=hb.shape
 refine fn_of_W Tryz.func77 rfl Tryz.results77 Tryz.ntmps77 rfl ?_
 by_cases hl:a.length=b.length
 ·repeat ((first|refine qA ?_|apply qB|refine qC ?_|apply qD|apply qE|apply qF|apply qG|apply qH);try simp (disch:=(first|omega|(simp only [qI,qJ,qK]<;>omega)|exact qL _)) only [go_sem])
  refine W.loop (fun ρ w'=>∃ (j:Nat),j≤a.length∧ρ 13 = .int .i64 j∧ρ 12 = .int .i64 a.length∧ρ 0 = .slice ba a.length ca∧ρ 1 = .slice bb b.length cb∧Ext w w'∧a.take j=b.take j)
   (fun ρ _=>a.length - (RowKit.intOf (ρ 13)).toNat) ?_ ?_
  ·refine ⟨0,Nat.zero_le _,?_,?_,?_,?_,Upd.refl _ _,rfl⟩<;>simp (disch:=(first|omega|(simp only [qI,qJ,qK]<;>omega)|exact qL _)) only [go_sem]
   rfl
  ·rintro ρ w1 ⟨j,hj,a8,h12,h0,h1,hext,hs⟩
   have hz:=hext.size
   by_cases hlt:j < a.length
   ·obtain ⟨_,ab,ao,ax,hba,_,hax,hablt,hav⟩:=ha.get hlt
    obtain ⟨_,bbk,bo,bx,hbb,_,hbx,hbblt,hbv⟩:=hb.get (show j < b.length by omega)
    subst hba;subst hbb
    have aA:blk w1 ab=some ax:=hext.blk_some hax id
    have aB:blk w1 bbk=some bx:=hext.blk_some hbx id
    have hj2:((j:Int)).toNat=j:=by omega
    repeat ((first|refine qA ?_|apply qB|refine qC ?_|apply qD|apply qE|apply qF|apply qG|apply qH);try simp (disch:=(first|omega|(simp only [qI,qJ,qK]<;>omega)|exact qL _)) only [go_sem,a8,h12])
    refine W.drawR (.take 0 (.take 1 (.take 2 (.take 3 (.take 4 (.take 5 (.take 6 (.take 7 (.take 8 .done))))))))) NoB mixed (by kernel_rfl) ?_
    simp (disch:=(first|omega|(simp only [qI,qJ,qK]<;>omega)|exact qL _)) only [go_sem,h0,h1,aA,aB,hav,hbv,hj2,Nat.mul_one,byteV]
    repeat ((first|refine qA ?_|apply qB|refine qC ?_|apply qD|apply qE|apply qF|apply qG|apply qH);try simp (disch:=(first|omega|(simp only [qI,qJ,qK]<;>omega)|exact qL _)) only [go_sem])
    refine ⟨fun hne => ?_,fun heq => ?_⟩
    ·repeat ((first|refine qA ?_|apply qB|refine qC ?_|apply qD|apply qE|apply qF|apply qG|apply qH);try simp (disch:=(first|omega|(simp only [qI,qJ,qK]<;>omega)|exact qL _)) only [go_sem])
     refine ⟨?_,hext.drew⟩
     have:a≠b:=fun e=>by subst e;simp at hne
     simp [this]
    ·have he:=byte_eq heq
     repeat ((first|refine qA ?_|apply qB|refine qC ?_|apply qD|apply qE|apply qF|apply qG|apply qH);try simp (disch:=(first|omega|(simp only [qI,qJ,qK]<;>omega)|exact qL _)) only [go_sem,a8,h12,h0,h1])
     refine ⟨⟨j+1,by omega,?_,hext.drew,take_snoc hs hlt (by omega) he⟩,?_⟩
     ·congr 1
     ·simp only [RowKit.intOf];omega
   ·repeat ((first|refine qA ?_|apply qB|refine qC ?_|apply qD|apply qE|apply qF|apply qG|apply qH);try simp (disch:=(first|omega|(simp only [qI,qJ,qK]<;>omega)|exact qL _)) only [go_sem,a8,h12])
    refine ⟨?_,hext⟩
    have e1:j=a.length:=by omega
    subst e1
    rw [List.take_length,hl,List.take_length] at hs
    simp [hs]
 ·repeat ((first|refine qA ?_|apply qB|refine qC ?_|apply qD|apply qE|apply qF|apply qG|apply qH);try simp (disch:=(first|omega|(simp only [qI,qJ,qK]<;>omega)|exact qL _)) only [go_sem])
  refine ⟨?_,Upd.refl _ _⟩
  have:a≠b:=fun e=>hl (by rw [e])
  simp [this]

end Ms

namespace Ms
set_option maxRecDepth 4000
open Go Go.Proofs
attribute [local congr] W_congr WPsq_congr WPp_congr optK_congr addrK_congr intK_congr boolK_congr sliceK_congr tupleK_congr funcK_congr Fn_congr rawK_congr takeK_congr stepK_congr convK_congr aggK_congr

end Ms

namespace Ms
open Go.World renaming size_alloc → qI
open Ms renaming size_wr → qJ,size_drew → qK,not_noB → qL
open W renaming seqF → qA,seq → qB,regF → qC,condK → qD,block → qE,skip → qF,ret → qG,exit → qH
set_option maxRecDepth 4000
open Go Go.Proofs
attribute [local congr] W_congr WPsq_congr WPp_congr optK_congr addrK_congr intK_congr boolK_congr sliceK_congr tupleK_congr funcK_congr Fn_congr rawK_congr takeK_congr stepK_congr convK_congr aggK_congr

theorem Width_fn (k:Int) (w:World):Fn Tryz.prog 78 #[.int .i64 k] w fun v w'=>v = .int .i64 (widthS k:Nat)∧w'=w:=by
 refine fn_of_W Tryz.func78 rfl Tryz.results78 Tryz.ntmps78 rfl ?_
 by_cases h1:k=1
 ·subst h1
  repeat ((first|refine qA ?_|apply qB|refine qC ?_|apply qD|apply qE|apply qF|apply qG|apply qH);try simp (disch:=(first|omega|(simp only [qI,qJ,qK]<;>omega)|exact qL _)) only [go_sem])
  rfl
 by_cases h2:k=2
 ·subst h2
  repeat ((first|refine qA ?_|apply qB|refine qC ?_|apply qD|apply qE|apply qF|apply qG|apply qH);try simp (disch:=(first|omega|(simp only [qI,qJ,qK]<;>omega)|exact qL _)) only [go_sem])
  rfl
 by_cases h5:k=5
 ·subst h5
  repeat ((first|refine qA ?_|apply qB|refine qC ?_|apply qD|apply qE|apply qF|apply qG|apply qH);try simp (disch:=(first|omega|(simp only [qI,qJ,qK]<;>omega)|exact qL _)) only [go_sem])
  rfl
 by_cases h3:k=3
 ·subst h3
  repeat ((first|refine qA ?_|apply qB|refine qC ?_|apply qD|apply qE|apply qF|apply qG|apply qH);try simp (disch:=(first|omega|(simp only [qI,qJ,qK]<;>omega)|exact qL _)) only [go_sem])
  rfl
 repeat ((first|refine qA ?_|apply qB|refine qC ?_|apply qD|apply qE|apply qF|apply qG|apply qH);try simp (disch:=(first|omega|(simp only [qI,qJ,qK]<;>omega)|exact qL _)) only [go_sem])
 simp [widthS,h1,h2,h5,h3]

theorem Has_fn {ok:Blocks} (f:Fld) (v:Int) (cf:List Value) (w:World) (hf:FldC ok w f cf):Fn Tryz.prog 35 #[.agg cf.toArray,.int .i64 v] w fun r w'=>r = .bool (hasS f v)∧Ext w w':=by
 obtain ⟨vs,rfl,_⟩:=hf.inv
 refine fn_of_W Tryz.func35 rfl Tryz.results35 Tryz.ntmps35 rfl ?_
 by_cases h1:f.fr≤v
 ·by_cases h2:f.to < 0
  ·repeat ((first|refine qA ?_|apply qB|refine qC ?_|apply qD|apply qE|apply qF|apply qG|apply qH);try simp (disch:=(first|omega|(simp only [qI,qJ,qK]<;>omega)|exact qL _)) only [go_sem])
   exact ⟨by simp [hasS,h1,h2],Upd.alloc (Upd.refl _ _) _⟩
  ·repeat ((first|refine qA ?_|apply qB|refine qC ?_|apply qD|apply qE|apply qF|apply qG|apply qH);try simp (disch:=(first|omega|(simp only [qI,qJ,qK]<;>omega)|exact qL _)) only [go_sem])
   exact ⟨by simp [hasS,h1,h2],Upd.alloc (Upd.refl _ _) _⟩
 ·repeat ((first|refine qA ?_|apply qB|refine qC ?_|apply qD|apply qE|apply qF|apply qG|apply qH);try simp (disch:=(first|omega|(simp only [qI,qJ,qK]<;>omega)|exact qL _)) only [go_sem])
  exact ⟨by simp [hasS,h1],Upd.alloc (Upd.refl _ _) _⟩

theorem Null_fn {ok:Blocks} (f:Fld) (v:Int) (t:Tree) (cf ct:List Value) (w:World) (hf:FldC ok w f cf) (ht:TreeC ok w t ct):Fn Tryz.prog 72 #[.agg cf.toArray,.int .i64 v,.agg ct.toArray] w fun r w'=>r = .bool (nullS f v t)∧Ext w w':=by
 obtain ⟨vs,rfl,_⟩:=hf.inv
 obtain ⟨vS,vL,vU,rfl,_⟩:=ht.inv
 refine fn_of_W Tryz.func72 rfl Tryz.results72 Tryz.ntmps72 rfl ?_
 have hE:Ext w ((w.alloc (.cells #[.int .i64 f.kind,.int .i64 f.fr,.int .i64 f.to,.int .i64 f.null,.int .i64 f.tag,.int .i64 f.df,.int .i64 f.of,vs] 50)).alloc (.cells #[.int .i64 t.n,vS,.bool t.null,vL,vU] 26)):=Upd.alloc (Upd.alloc (Upd.refl _ _) _) _
 cases h0:t.null with
 | false =>
  repeat ((first|refine qA ?_|apply qB|refine qC ?_|apply qD|apply qE|apply qF|apply qG|apply qH);try simp (disch:=(first|omega|(simp only [qI,qJ,qK]<;>omega)|exact qL _)) only [go_sem,h0])
  exact ⟨by simp [nullS,h0],by rw [h0] at hE;exact hE⟩
 | true =>
  by_cases h1:0≤f.null
  ·by_cases h2:f.null≤v
   ·repeat ((first|refine qA ?_|apply qB|refine qC ?_|apply qD|apply qE|apply qF|apply qG|apply qH);try simp (disch:=(first|omega|(simp only [qI,qJ,qK]<;>omega)|exact qL _)) only [go_sem,h0])
    exact ⟨by simp [nullS,h0,h1,h2],by rw [h0] at hE;exact hE⟩
   ·repeat ((first|refine qA ?_|apply qB|refine qC ?_|apply qD|apply qE|apply qF|apply qG|apply qH);try simp (disch:=(first|omega|(simp only [qI,qJ,qK]<;>omega)|exact qL _)) only [go_sem,h0])
    exact ⟨by simp [nullS,h0,h2],by rw [h0] at hE;exact hE⟩
  ·repeat ((first|refine qA ?_|apply qB|refine qC ?_|apply qD|apply qE|apply qF|apply qG|apply qH);try simp (disch:=(first|omega|(simp only [qI,qJ,qK]<;>omega)|exact qL _)) only [go_sem,h0])
   exact ⟨by simp [nullS,h0,h1],by rw [h0] at hE;exact hE⟩

theorem whole_fn {ok:Blocks} (s:List UInt8) (v:Value) (w:World) (h:BytesV ok w v s):Fn Tryz.prog 41 #[v] w fun r w'=>BytesV ok w' r (wholeS s)∧w'=w:=by
 obtain ⟨base,cap,rfl,hcap⟩:=h.shape
 refine fn_of_W Tryz.func41 rfl Tryz.results41 Tryz.ntmps41 rfl ?_
 have hm:=take_min s
 by_cases h1:(32767:Int) < s.length
 ·repeat ((first|refine qA ?_|apply qB|refine qC ?_|apply qD|apply qE|apply qF|apply qG|apply qH);try simp (disch:=(first|omega|(simp only [qI,qJ,qK]<;>omega)|exact qL _)) only [go_sem,h1])
  have e:min s.length 32767=32767:=by omega
  rw [wholeS]
  exact h.take 32767 (by omega)
 ·repeat ((first|refine qA ?_|apply qB|refine qC ?_|apply qD|apply qE|apply qF|apply qG|apply qH);try simp (disch:=(first|omega|(simp only [qI,qJ,qK]<;>omega)|exact qL _)) only [go_sem,h1,Int.toNat_natCast])
  have e:min s.length 32767=s.length:=by omega
  rw [wholeS,← hm,e]
  exact h.take s.length (by omega)
theorem things_fn {ok:Blocks} (s:List Tree) (v:Value) (w:World) (h:TreesV ok w v s):Fn Tryz.prog 73 #[v] w fun r w'=>TreesV ok w' r (thingsS s)∧w'=w:=by
 obtain ⟨base,cap,rfl,hcap⟩:=SlR.shape h
 refine fn_of_W Tryz.func73 rfl Tryz.results73 Tryz.ntmps73 rfl ?_
 have hm:=take_min s
 by_cases h1:(32767:Int) < s.length
 ·repeat ((first|refine qA ?_|apply qB|refine qC ?_|apply qD|apply qE|apply qF|apply qG|apply qH);try simp (disch:=(first|omega|(simp only [qI,qJ,qK]<;>omega)|exact qL _)) only [go_sem,h1])
  rw [thingsS]
  exact SlR.take h 32767 (by omega)
 ·repeat ((first|refine qA ?_|apply qB|refine qC ?_|apply qD|apply qE|apply qF|apply qG|apply qH);try simp (disch:=(first|omega|(simp only [qI,qJ,qK]<;>omega)|exact qL _)) only [go_sem,h1,Int.toNat_natCast])
  have e:min s.length 32767=s.length:=by omega
  rw [thingsS,← hm,e]
  exact SlR.take h s.length (by omega)
theorem known_fn {ok:Blocks} (fs:List Fld) (v:Value) (w:World) (h:FldsV ok w v fs) (hl:fs.length≤1000) (ht:∀ f∈fs,f.tag≤1000):Fn Tryz.prog 37 #[v] w fun r w'=>r = .int .u32 (knownS fs:Nat)∧Ext w w':=by
 obtain ⟨base,cap,rfl,hcap⟩:=SlR.shape h
 refine fn_of_W Tryz.func37 rfl Tryz.results37 Tryz.ntmps37 rfl ?_
 repeat ((first|refine qA ?_|apply qB|refine qC ?_|apply qD|apply qE|apply qF|apply qG|apply qH);try simp (disch:=(first|omega|(simp only [qI,qJ,qK]<;>omega)|exact qL _)) only [go_sem])
 refine W.loop (fun ρ w'=>∃ (j:Nat),j≤fs.length∧ρ 8 = .int .i64 j∧ρ 7 = .int .i64 fs.length∧ρ 6 = .slice base fs.length cap∧ρ 3 = .int .u32 (knownS (fs.take j):Nat)∧Ext w w')
  (fun ρ _=>fs.length - (RowKit.intOf (ρ 8)).toNat) ?_ ?_
 ·refine ⟨0,Nat.zero_le _,?_,?_,?_,?_,Upd.refl _ _⟩<;>simp (disch:=(first|omega|(simp only [qI,qJ,qK]<;>omega)|exact qL _)) only [go_sem]
  all_goals rfl
 ·rintro ρ w1 ⟨j,hj,h8,h7,h6,h3,hext⟩
  have hz:=hext.size
  by_cases hlt:j < fs.length
  ·obtain ⟨_,b,o,x,vs,hb,_,hx,hblt,hxs,hxe,hfl,_⟩:=FldsV.get h hlt
   subst hb
   have hx1:blk w1 b=some x:=hext.blk_some hx id
   have hk1:knownS (fs.take j)≤1001:=knownS_le fun f hf=>ht f (List.mem_of_mem_take hf)
   have htj:=ht fs[j] (List.getElem_mem hlt)
   have hsn:=knownS_snoc fs j hlt
   by_cases h0:0≤fs[j].tag
   ·have hw:IntKind.u32.wrap fs[j].tag=fs[j].tag:=u32_wrap (by omega)
    rw [if_pos h0] at hsn
    by_cases hm:(knownS (fs.take j):Int) < fs[j].tag+1
    ·repeat ((first|refine qA ?_|apply qB|refine qC ?_|apply qD|apply qE|apply qF|apply qG|apply qH);try simp (disch:=(first|omega|(simp only [qI,qJ,qK]<;>omega)|exact qL _)) only [go_sem,h8,h7,h6,h3,hx1,hxe,hfl,Int.toNat_natCast,hw,hm])
     refine ⟨⟨j+1,by omega,?_,?_,(hext.alloc _).wr _ _ (.inl (by omega))⟩,?_⟩
     ·congr 1
     ·rw [hsn];congr 1;omega
     ·simp only [RowKit.intOf];omega
    ·repeat ((first|refine qA ?_|apply qB|refine qC ?_|apply qD|apply qE|apply qF|apply qG|apply qH);try simp (disch:=(first|omega|(simp only [qI,qJ,qK]<;>omega)|exact qL _)) only [go_sem,h8,h7,h6,h3,hx1,hxe,hfl,Int.toNat_natCast,hw,hm])
     refine ⟨⟨j+1,by omega,?_,?_,(hext.alloc _).wr _ _ (.inl (by omega))⟩,?_⟩
     ·congr 1
     ·rw [hsn];congr 1;omega
     ·simp only [RowKit.intOf];omega
   ·rw [if_neg h0] at hsn
    repeat ((first|refine qA ?_|apply qB|refine qC ?_|apply qD|apply qE|apply qF|apply qG|apply qH);try simp (disch:=(first|omega|(simp only [qI,qJ,qK]<;>omega)|exact qL _)) only [go_sem,h8,h7,h6,h3,hx1,hxe,hfl,Int.toNat_natCast])
    refine ⟨⟨j+1,by omega,?_,?_,(hext.alloc _).wr _ _ (.inl (by omega))⟩,?_⟩
    ·congr 1
    ·rw [hsn]
    ·simp only [RowKit.intOf];omega
  ·repeat ((first|refine qA ?_|apply qB|refine qC ?_|apply qD|apply qE|apply qF|apply qG|apply qH);try simp (disch:=(first|omega|(simp only [qI,qJ,qK]<;>omega)|exact qL _)) only [go_sem,h8,h7,h3])
   refine ⟨?_,hext⟩
   have:j=fs.length:=by omega
   subst this
   rw [List.take_length]

theorem TreeC.zero (ok:Blocks) (w:World):TreeC ok w Tree.zero [.int .i64 0,.slice none 0 0,.bool false,.slice none 0 0,.slice none 0 0] :=
 TreeC.intro rfl ⟨none,0,rfl,Nat.le_refl _,by simp,.inl rfl⟩ ⟨[],⟨none,0,rfl,Nat.le_refl _,by simp,.inl rfl⟩,rfl,fun i h=>by simp at h⟩ ⟨[],⟨none,0,rfl,Nat.le_refl _,by simp,.inl rfl⟩,rfl,fun i h=>by simp at h⟩
theorem Tree.at_lt {t:Tree} {i:Nat} (h:i < t.l.length):t.at i=t.l[i]:=by simp [Tree.at,h]
theorem Tree.at_ge {t:Tree} {i:Nat} (h:t.l.length≤i):t.at i = .zero:=by simp [Tree.at,h]

theorem at_fn {ok:Blocks} (t:Tree) (i:Nat) (ct:List Value) (w:World) (ht:TreeC ok w t ct) (hi:i≤1000) (hlen:t.l.length < 4611686018427387904) :
  Fn Tryz.prog 23 #[.agg ct.toArray,.int .i64 i] w fun r w'=>(∃ cs,r = .agg cs.toArray∧TreeC ok w' (t.at i) cs)∧Ext w w':=by
 obtain ⟨vS,vL,vU,rfl,hn,hS,hL,hU⟩:=ht.inv
 obtain ⟨base,cap,rfl,hcap⟩:=SlR.shape hL
 have f1:=hS.flat
 have f2:=SlR.flat hU
 refine fn_of_W Tryz.func23 rfl Tryz.results23 Tryz.ntmps23 rfl ?_
 by_cases h1:i < t.l.length
 ·obtain ⟨_,b,o,x,vS',vL',vU',hb,hok,hx,hlt,hxs,hxe,g1,g2,g3,hc⟩:=TreesV.get hL h1
  subst hb
  repeat ((first|refine qA ?_|apply qB|refine qC ?_|apply qD|apply qE|apply qF|apply qG|apply qH);try simp (disch:=(first|omega|(simp only [qI,qJ,qK]<;>omega)|exact qL _)) only [go_sem,f1,f2,g1,g2,g3,hx,hxe,Int.toNat_natCast])
  have hE:Ext w (wr ((w.alloc (.cells #[.int .i64 t.n,vS,.bool t.null,.slice (some ⟨b,o,none⟩) t.l.length cap,vU] 26)).alloc (.cells #[.int .i64 0,.slice none 0 0,.bool false,.slice none 0 0,.slice none 0 0] 26)) (w.heap.size+1) 0 [.int .i64 t.l[i].n,vS',.bool t.l[i].null,vL',vU']) :=
   Upd.wr (Upd.alloc (Upd.alloc (Upd.refl _ _) _) _) _ _ (.inl (by omega))
  refine ⟨⟨_,rfl,?_⟩,hE⟩
  rw [Tree.at_lt h1]
  exact hc.keep (hE.keeps _)
 ·repeat ((first|refine qA ?_|apply qB|refine qC ?_|apply qD|apply qE|apply qF|apply qG|apply qH);try simp (disch:=(first|omega|(simp only [qI,qJ,qK]<;>omega)|exact qL _)) only [go_sem,f1,f2])
  refine ⟨⟨_,rfl,?_⟩,?_⟩
  ·rw [Tree.at_ge (by omega)]
   exact TreeC.zero _ _
  ·exact Upd.wr (Upd.alloc (Upd.alloc (Upd.refl _ _) _) _) _ _ (.inl (by omega))

theorem and127 {m:Nat} (h:m < 2 ^ 64):(BitVec.ofInt (kbits .u64) (m:Int) &&& BitVec.ofInt (kbits .u64) 127).toNat=m % 128:=by
 show (BitVec.ofInt 64 (m:Int) &&& BitVec.ofInt 64 127).toNat=m % 128
 rw [BitVec.toNat_and,BitVec.ofInt_natCast,BitVec.toNat_ofNat,Nat.mod_eq_of_lt h]
 exact Nat.and_two_pow_sub_one_eq_mod m 7
theorem or128F : ∀ y:Fin 128,(BitVec.ofInt 8 ((y.val:Nat):Int) ||| BitVec.ofInt 8 128).toNat=y.val+128:=by decide
theorem or128 {y:Nat} (h:y < 128):(BitVec.ofInt (kbits .u8) (y:Int) ||| BitVec.ofInt (kbits .u8) 128).toNat=y+128:=or128F ⟨y,h⟩
theorem u8_wrap {x:Int} (h:0≤x∧x≤255):IntKind.u8.wrap x=x:=IntWalk.u8_in x h

theorem Uvarint_fn (n:Nat) (hn:n < 2 ^ 64) (w:World):Fn Tryz.prog 39 #[.int .u64 n] w fun v w'=>OwnBy 5 w.heap.size w' v (uvarS n)∧Ext w w':=by
 have hlen:=uvarS_len 9 n (by omega)
 refine fn_of_W Tryz.func39 rfl Tryz.results39 Tryz.ntmps39 rfl ?_
 repeat ((first|refine qA ?_|apply qB|refine qC ?_|apply qD|apply qE|apply qF|apply qG|apply qH);try simp (disch:=omega) only [go_sem])
 refine W.loop (fun ρ w'=>∃ (m:Nat) (s:List UInt8) (v:Value),m≤n∧ρ 0 = .int .u64 m∧ρ 3=v∧OwnBy 5 w.heap.size w' v s∧Ext w w'∧s++uvarS m=uvarS n)
  (fun ρ _=>(RowKit.intOf (ρ 0)).toNat) ?_ ?_
 ·refine ⟨n,[],_,Nat.le_refl _,?_,rfl,?_,Upd.refl _ _,rfl⟩
  ·simp (disch:=omega) only [go_sem]
  ·simp (disch:=omega) only [go_sem]
   exact Own.nil _ _ _ _
 ·rintro ρ w1 ⟨m,s,v,hm,h0,h3,hown,hext,hs⟩
  have hz:=hext.size
  have hsl:s.length≤10:=by
   have:=congrArg List.length hs
   simp only [List.length_append] at this;omega
  by_cases h1:127 < m
  ·have e1:=and127 (m:=m) (by omega)
   have e2:=or128 (y:=m % 128) (by omega)
   have e3:IntKind.u8.wrap ((m % 128:Nat):Int)=((m % 128:Nat):Int):=u8_wrap (by omega)
   have e4:((m:Int)).fdiv (2 ^ (min 7 64))=((m / 128:Nat):Int):=by rw [show (2:Int) ^ (min 7 64)=128 from by decide,Int.fdiv_eq_ediv_of_nonneg _ (by decide)];omega
   repeat ((first|refine qA ?_|apply qB|refine qC ?_|apply qD|apply qE|apply qF|apply qG|apply qH);try simp (disch:=omega) only [go_sem,h0,h3,e1,e2,e3,u8_byte])
   refine wp_append ap_22_22 (m:=1) (news:=[byteV (b8 ((m % 128+128:Nat):Int))]) (n:=s.length) (cs:=s.map byteV) (v:=v) ?_ rfl (hown.alloc _) (flat_bytes _) (Src.blk (fr:=(0,0)) (T:=5) (blk_alloc_new rfl) rfl rfl) ?_ ?_ ?_
   ·simp (disch:=omega) only [go_sem]
   ·simp only [World.size_alloc];omega
   ·omega
   intro v' w2 ho hu hfr
   have hz2:=hu.size
   simp (disch:=omega) only [go_sem]
   repeat ((first|refine qA ?_|apply qB|refine qC ?_|apply qD|apply qE|apply qF|apply qG|apply qH);try simp (disch:=omega) only [go_sem,h0,h3,e4,kbits])
   refine ⟨⟨m / 128,s++[b8 ((m % 128:Nat)+128:Int)],_,by omega,?_,rfl,OwnBy.snoc ho,Ext.own (hext.alloc _) hown hu,?_⟩,?_⟩
   ·rfl
   ·rw [uvarS_big h1] at hs
    rw [List.append_assoc];exact hs
   ·simp only [RowKit.intOf];omega
  ·repeat ((first|refine qA ?_|apply qB|refine qC ?_|apply qD|apply qE|apply qF|apply qG|apply qH);try simp (disch:=omega) only [go_sem,h0,h3,u8_byte])
   refine wp_append ap_22_22 (m:=1) (news:=[byteV (b8 (m:Int))]) (n:=s.length) (cs:=s.map byteV) (v:=v) ?_ rfl (hown.alloc _) (flat_bytes _) (Src.blk (fr:=(0,0)) (T:=5) (blk_alloc_new rfl) rfl rfl) ?_ ?_ ?_
   ·simp (disch:=omega) only [go_sem]
   ·simp only [World.size_alloc];omega
   ·omega
   intro v' w2 ho hu hfr
   have hz2:=hu.size
   simp (disch:=omega) only [go_sem]
   repeat ((first|refine qA ?_|apply qB|refine qC ?_|apply qD|apply qE|apply qF|apply qG|apply qH);try simp (disch:=omega) only [go_sem,h0,h3])
   refine ⟨?_,Ext.own (hext.alloc _) hown hu⟩
   rw [uvarS_small (by omega)] at hs
   rw [← hs]
   exact OwnBy.snoc ho

theorem counted_fn (flex null:Bool) (n k:Nat) (hk:k≤8) (hn:n < 4611686018427387904) (w:World) :
  Fn Tryz.prog 74 #[.bool flex,.bool null,.int .i64 n,.int .i64 k] w fun v w'=>OwnBy 5 w.heap.size w' v (countedS flex null n k)∧Ext w w':=by
 refine fn_of_W Tryz.func74 rfl Tryz.results74 Tryz.ntmps74 rfl ?_
 cases flex with
 | true =>
  cases null with
  | true =>
   repeat ((first|refine qA ?_|apply qB|refine qC ?_|apply qD|apply qE|apply qF|apply qG|apply qH);try simp (disch:=omega) only [go_sem])
   refine ⟨?_,Upd.alloc (Upd.refl _ _) _⟩
   exact Own.blk (n:=1) (cs:=[byteV 0]) (blk_alloc_new rfl) rfl (Nat.le_refl _)
  | false =>
   have e:IntKind.u64.wrap (n:Int)=n:=u64_wrap (by omega)
   have e':(n:Int)+1=((n+1:Nat):Int):=rfl
   repeat ((first|refine qA ?_|apply qB|refine qC ?_|apply qD|apply qE|apply qF|apply qG|apply qH);try simp (disch:=omega) only [go_sem,e,e'])
   refine (Uvarint_fn (n+1) (by omega) w).mono ?_
   rintro v w' ⟨h1,h2⟩
   repeat ((first|refine qA ?_|apply qB|refine qC ?_|apply qD|apply qE|apply qF|apply qG|apply qH);try simp (disch:=omega) only [go_sem])
   exact ⟨by simpa [countedS] using h1,h2⟩
 | false =>
  cases null with
  | true =>
   repeat ((first|refine qA ?_|apply qB|refine qC ?_|apply qD|apply qE|apply qF|apply qG|apply qH);try simp (disch:=omega) only [go_sem])
   refine (Fixed_fn (-1) k hk w).mono ?_
   rintro v w' ⟨h1,h2⟩
   repeat ((first|refine qA ?_|apply qB|refine qC ?_|apply qD|apply qE|apply qF|apply qG|apply qH);try simp (disch:=omega) only [go_sem])
   exact ⟨by simpa [countedS] using h1,h2⟩
  | false =>
   repeat ((first|refine qA ?_|apply qB|refine qC ?_|apply qD|apply qE|apply qF|apply qG|apply qH);try simp (disch:=omega) only [go_sem])
   refine (Fixed_fn n k hk w).mono ?_
   rintro v w' ⟨h1,h2⟩
   repeat ((first|refine qA ?_|apply qB|refine qC ?_|apply qD|apply qE|apply qF|apply qG|apply qH);try simp (disch:=omega) only [go_sem])
   exact ⟨by simpa [countedS] using h1,h2⟩

def OwnTags (ok:Blocks) (w:World) (B:Nat) (w':World) (v:Value) (ts:List TagD):Prop:=∃ css,OwnE B w' 63 2 v css∧All2 (TagC ok w) ts css

abbrev UG (w:World) (N j K tb capl:Nat) (base:Option Addr) (v vv:Value) (css:List (List Value)) (t:TagD) (ρ:Regs) (w':World):Prop :=
 ρ 19 = .int .i64 j∧ρ 18 = .int .i64 N∧ρ 17 = .slice base N capl∧ρ 5 = .int .u32 K∧ρ 6=v∧ρ 8 = .pointer (some ⟨tb,0,none⟩) ∧
  OwnE w.heap.size w' 63 2 v css∧blk w' tb=some (#[.int .u32 t.1,vv],63,(0,0))∧Ext w w'∧tb < w'.heap.size

theorem unknown_fn {ok:Blocks} (fs:List Fld) (vf:Value) (l:List TagD) (vl:Value) (w:World) (hf:FldsV ok w vf fs) (hfl:fs.length≤1000) (htag:∀ f∈fs,f.tag≤1000) (hl:TagsV ok w vl l) :
  Fn Tryz.prog 40 #[vf,vl] w fun r w'=>OwnTags ok w w.heap.size w' r (unknownS fs l)∧Ext w w':=by
 obtain ⟨basel,capl,rfl,hcapl⟩:=SlR.shape hl
 have hK:=knownS_le (fs:=fs) htag
 refine fn_of_W Tryz.func40 rfl Tryz.results40 Tryz.ntmps40 rfl ?_
 repeat ((first|refine qA ?_|apply qB|refine qC ?_|apply qD|apply qE|apply qF|apply qG|apply qH);try simp (disch:=(first|omega|(simp only [qI,qJ,qK]<;>omega)|exact qL _)) only [go_sem])
 refine (known_fn fs vf w hf hfl htag).mono ?_
 rintro v0 w0 ⟨rfl,hE0⟩
 have hz0:=hE0.size
 have hmin:(if (32767:Int) < (l.length:Int) then (32767:Int) else (l.length:Int))=((min l.length 32767:Nat):Int):=by
  split<;>omega
 repeat ((first|refine qA ?_|apply qB|refine qC ?_|apply qD|apply qE|apply qF|apply qG|apply qH);try simp (disch:=(first|omega|(simp only [qI,qJ,qK]<;>omega)|exact qL _)) only [go_sem,hmin,Int.toNat_natCast])
 clear hmin
 have hN:min l.length 32767≤32767:=Nat.min_le_right _ _
 have hL:=SlR.take hl (min l.length 32767) (by omega)
 have hLl:(l.take (min l.length 32767)).length=min l.length 32767:=by simp
 have hun:unknownS fs l=(l.take (min l.length 32767)).foldl (insTag (knownS fs)) []:=by rw [take_min];rfl
 generalize slBase basel 0 capl 2=base at *
 generalize l.take (min l.length 32767)=L at *
 generalize min l.length 32767=N at *
 generalize knownS fs=K at *
 refine W.loop (fun ρ w'=>∃ (j:Nat) (v:Value) (css:List (List Value)),j≤N∧ρ 19 = .int .i64 j∧ρ 18 = .int .i64 N∧ρ 17 = .slice base N capl∧ρ 5 = .int .u32 K∧ρ 6=v ∧
   OwnE w.heap.size w' 63 2 v css∧All2 (TagC ok w) ((L.take j).foldl (insTag K) []) css∧css.length≤j∧Ext w w')
  (fun ρ _=>N - (RowKit.intOf (ρ 19)).toNat) ?_ ?_
 ·refine ⟨0,_,[],Nat.zero_le _,?_,?_,?_,?_,rfl,?_,⟨rfl,fun i h=>by simp at h⟩,Nat.le_refl _,hE0⟩<;>simp (disch:=(first|omega|(simp only [qI,qJ,qK]<;>omega)|exact qL _)) only [go_sem]
  all_goals first|rfl|exact OwnE.nil _ _ _ _
 ·rintro ρ w1 ⟨j,v,css,hj,aD,h18,h17,h5,h6,hown,hall,hcl,hext⟩
  have hz:=hext.size
  by_cases hlt:j < N
  ·obtain ⟨_,b,o,x,vv,hb,_,hx,hblt,hxs,hxe,_,_,hfv,hbv,aK⟩:=TagsV.get hL (by omega:j < L.length)
   subst hb
   have hx1:blk w1 b=some x:=hext.blk_some hx id
   have hfold:(L.take (j+1)).foldl (insTag K) [] = insTag K ((L.take j).foldl (insTag K) []) L[j]:=by
    rw [List.take_succ_eq_append_getElem (by omega)];simp only [List.foldl_append,List.foldl_cons,List.foldl_nil]
   generalize L[j] = t at *
   generalize (L.take j).foldl (insTag K) [] = out at *
   have hol:out.length=css.length:=hall.1
   repeat ((first|refine qA ?_|apply qB|refine qC ?_|apply qD|apply qE|apply qF|apply qG|apply qH);try simp (disch:=(first|omega|(simp only [qI,qJ,qK]<;>omega)|exact qL _)) only [go_sem,aD,h18,h17,h5,h6,hx1,hxe,hfv,Int.toNat_natCast])
   refine W.exitJ 2 (fun ρ' w'=>∃ i:Nat,i≤css.length∧ρ' 9 = .int .i64 i∧UG w N j K w1.heap.size capl (some ⟨b,o,none⟩) v vv css t ρ' w'∧(∀ k (hk:k < out.length),k < i→out[k].1 < t.1)∧(∀ hi:i < out.length,t.1≤out[i].1))
    (W.loop (fun ρ' w'=>∃ i:Nat,i≤css.length∧ρ' 9 = .int .i64 i∧UG w N j K w1.heap.size capl (some ⟨b,o,none⟩) v vv css t ρ' w'∧(∀ k (hk:k < out.length),k < i→out[k].1 < t.1))
     (fun ρ _=>css.length - (RowKit.intOf (ρ 9)).toNat) ?_ ?_) ?_
   ·refine ⟨0,Nat.zero_le _,?_,⟨?_,?_,?_,?_,?_,?_,?_,?_,?_,?_⟩,fun k _ h=>by omega⟩
    ·simp (disch:=(first|omega|(simp only [qI,qJ,qK]<;>omega)|exact qL _)) only [go_sem]
     rfl
    iterate 6 (· simp (disch:=(first|omega|(simp only [qI,qJ,qK]<;>omega)|exact qL _)) only [go_sem,aD,h18,h17,h5,h6])
    ·exact (hown.alloc _).upd ((Upd.refl (fun b=>b=w1.heap.size) _).wr 0 _ (.inr rfl)) fun b hb e=>by have:=hown.1.below hb;omega
    ·simp (disch:=(first|omega|(simp only [qI,qJ,qK]<;>omega)|exact qL _)) only [go_sem]
    ·exact (hext.alloc _).wr _ _ (.inl (by omega))
    ·simp only [size_wr,World.size_alloc];omega
   ·rintro ρ2 w2 ⟨i,hi,h9,⟨k19,k18,k17,k5,k6,k8,hown2,htb,a8,htbl⟩,hlo⟩
    obtain ⟨va,vc,hv,hvc⟩:=hown2.shape
    subst hv
    by_cases hil:i < css.length
    ·obtain ⟨g,cap,x2,hv,hcap,hBg,hgl,hgb,hg1,hg2,hg3⟩:=hown2.view (by omega)
     cases hv
     obtain ⟨vv2,hcs,aE,h32⟩:=hall.2 i (by omega) hil
     have hnum:=hg3 i hil 0 (by omega)
     rw [hcs,Nat.add_zero] at hnum
     have hii:i < out.length:=by omega
     by_cases hlt2:out[i].1 < t.1
     ·repeat ((first|refine qA ?_|apply qB|refine qC ?_|apply qD|apply qE|apply qF|apply qG|apply qH);try simp (disch:=(first|omega|(simp only [qI,qJ,qK]<;>omega)|exact qL _)) only [go_sem])
      refine W.drawR (.take 0 (.take 1 (.take 2 (.take 3 (.take 4 (.take 5 (.take 6 (.take 7 (.take 8 (.take 9 (.take 10 (.take 11 (.take 12 (.take 13 .done)))))))))))))) NoB mixed (by kernel_rfl) ?_
      simp (disch:=(first|omega|(simp only [qI,qJ,qK]<;>omega)|exact qL _)) only [go_sem,k6,h9,k8,hgb,hnum,htb,Int.toNat_natCast]
      repeat ((first|refine qA ?_|apply qB|refine qC ?_|apply qD|apply qE|apply qF|apply qG|apply qH);try simp (disch:=(first|omega|(simp only [qI,qJ,qK]<;>omega)|exact qL _)) only [go_sem,h9])
      refine ⟨⟨i+1,by omega,?_,⟨?_,?_,?_,?_,?_,?_,hown2.upd (Upd.refl (fun _=>False) _).drew (fun _ _ h=>h),htb,a8.drew,htbl⟩,?_⟩,?_⟩
      ·rfl
      iterate 6 (· simp (disch:=(first|omega|(simp only [qI,qJ,qK]<;>omega)|exact qL _)) only [go_sem,k19,k18,k17,k5,k6,k8])
      ·intro k hk hki
       rcases Nat.lt_or_ge k i with h|h
       ·exact hlo k hk h
       ·have:k=i:=by omega
        subst this;exact hlt2
      ·simp only [RowKit.intOf,h9];omega
     ·repeat ((first|refine qA ?_|apply qB|refine qC ?_|apply qD|apply qE|apply qF|apply qG|apply qH);try simp (disch:=(first|omega|(simp only [qI,qJ,qK]<;>omega)|exact qL _)) only [go_sem])
      refine W.drawR (.take 0 (.take 1 (.take 2 (.take 3 (.take 4 (.take 5 (.take 6 (.take 7 (.take 8 (.take 9 (.take 10 (.take 11 (.take 12 (.take 13 .done)))))))))))))) NoB mixed (by kernel_rfl) ?_
      simp (disch:=(first|omega|(simp only [qI,qJ,qK]<;>omega)|exact qL _)) only [go_sem,k6,h9,k8,hgb,hnum,htb,Int.toNat_natCast]
      repeat ((first|refine qA ?_|apply qB|refine qC ?_|apply qD|apply qE|apply qF|apply qG|apply qH);try simp (disch:=(first|omega|(simp only [qI,qJ,qK]<;>omega)|exact qL _)) only [go_sem])
      refine ⟨i,hi,?_,⟨?_,?_,?_,?_,?_,?_,hown2.upd (Upd.refl (fun _=>False) _).drew (fun _ _ h=>h),htb,a8.drew,htbl⟩,hlo,fun _=>by omega⟩
      iterate 7 (· simp (disch:=(first|omega|(simp only [qI,qJ,qK]<;>omega)|exact qL _)) only [go_sem,k19,k18,k17,k5,k6,k8,h9])
    ·repeat ((first|refine qA ?_|apply qB|refine qC ?_|apply qD|apply qE|apply qF|apply qG|apply qH);try simp (disch:=(first|omega|(simp only [qI,qJ,qK]<;>omega)|exact qL _)) only [go_sem])
     refine W.drawR (.take 0 (.take 1 (.take 2 (.take 3 (.take 4 (.take 5 (.take 6 (.take 7 (.take 8 (.take 9 (.take 10 (.take 11 (.take 12 (.take 13 .done)))))))))))))) NoB mixed (by kernel_rfl) ?_
     simp (disch:=(first|omega|(simp only [qI,qJ,qK]<;>omega)|exact qL _)) only [go_sem,k6,h9,k8,htb]
     repeat ((first|refine qA ?_|apply qB|refine qC ?_|apply qD|apply qE|apply qF|apply qG|apply qH);try simp (disch:=(first|omega|(simp only [qI,qJ,qK]<;>omega)|exact qL _)) only [go_sem])
     refine ⟨i,hi,?_,⟨?_,?_,?_,?_,?_,?_,hown2.upd (Upd.refl (fun _=>False) _).drew (fun _ _ h=>h),htb,a8.drew,htbl⟩,hlo,fun _=>by omega⟩
     iterate 7 (· simp (disch:=(first|omega|(simp only [qI,qJ,qK]<;>omega)|exact qL _)) only [go_sem,k19,k18,k17,k5,k6,k8,h9])
   ·rintro ρ2 w2 ⟨i,hi,h9,⟨k19,k18,k17,k5,k6,k8,hown2,htb,a8,htbl⟩,hlo,hhi⟩
    obtain ⟨va,vc,hv,hvc⟩:=hown2.shape
    subst hv
    simp (disch:=(first|omega|(simp only [qI,qJ,qK]<;>omega)|exact qL _)) only [go_sem]
    repeat ((first|refine qA ?_|apply qB|refine qC ?_|apply qD|apply qE|apply qF|apply qG|apply qH);try simp (disch:=(first|omega|(simp only [qI,qJ,qK]<;>omega)|exact qL _)) only [go_sem])
    refine W.normJ (fun ρ' w'=>∃ bb:Bool,ρ' 58 = .bool bb∧(bb=true↔(t.1 < K∨∃ hi:i < out.length,out[i].1=t.1))∧ρ' 9 = .int .i64 i∧UG w N j K w1.heap.size capl (some ⟨b,o,none⟩) (.slice va css.length vc) vv css t ρ' w') ?_ ?_
    ·by_cases hKt:t.1 < K
     ·refine W.drawR (.take 0 (.take 1 (.take 2 (.take 3 (.take 4 (.take 5 (.take 6 (.take 7 (.take 8 (.take 9 (.take 10 (.take 11 (.take 12 (.take 13 (.take 14 (.take 15 (.take 16 (.take 17 (.take 18 (.take 19 .done)))))))))))))))))))) NoB mixed (by kernel_rfl) ?_
      simp (disch:=(first|omega|(simp only [qI,qJ,qK]<;>omega)|exact qL _)) only [go_sem,k6,h9,k8,k5,htb]
      refine ⟨true,rfl,by simp [hKt],⟨?_,?_,?_,?_,?_,?_,hown2.upd (Upd.refl (fun _=>False) _).drew (fun _ _ h=>h),htb,a8.drew,htbl⟩⟩
      iterate 6 (· simp (disch:=(first|omega|(simp only [qI,qJ,qK]<;>omega)|exact qL _)) only [go_sem,k19,k18,k17,k5,k6,k8])
     ·by_cases hil:i < css.length
      ·obtain ⟨g,cap,x2,hv,hcap,hBg,hgl,hgb,hg1,hg2,hg3⟩:=hown2.view (by omega)
       cases hv
       obtain ⟨vv2,hcs,aE,h32⟩:=hall.2 i (by omega) hil
       have hnum:=hg3 i hil 0 (by omega)
       rw [hcs,Nat.add_zero] at hnum
       have hii:i < out.length:=by omega
       by_cases heq:out[i].1=t.1
       ·refine W.drawR (.take 0 (.take 1 (.take 2 (.take 3 (.take 4 (.take 5 (.take 6 (.take 7 (.take 8 (.take 9 (.take 10 (.take 11 (.take 12 (.take 13 (.take 14 (.take 15 (.take 16 (.take 17 (.take 18 (.take 19 .done)))))))))))))))))))) NoB mixed (by kernel_rfl) ?_
        simp (disch:=(first|omega|(simp only [qI,qJ,qK]<;>omega)|exact qL _)) only [go_sem,k6,h9,k8,k5,hgb,hnum,htb,Int.toNat_natCast]
        refine ⟨true,rfl,by simp [heq,hii],⟨?_,?_,?_,?_,?_,?_,hown2.upd (Upd.refl (fun _=>False) _).drew (fun _ _ h=>h),htb,a8.drew,htbl⟩⟩
        iterate 6 (· simp (disch:=(first|omega|(simp only [qI,qJ,qK]<;>omega)|exact qL _)) only [go_sem,k19,k18,k17,k5,k6,k8])
       ·refine W.drawR (.take 0 (.take 1 (.take 2 (.take 3 (.take 4 (.take 5 (.take 6 (.take 7 (.take 8 (.take 9 (.take 10 (.take 11 (.take 12 (.take 13 (.take 14 (.take 15 (.take 16 (.take 17 (.take 18 (.take 19 .done)))))))))))))))))))) NoB mixed (by kernel_rfl) ?_
        simp (disch:=(first|omega|(simp only [qI,qJ,qK]<;>omega)|exact qL _)) only [go_sem,k6,h9,k8,k5,hgb,hnum,htb,Int.toNat_natCast]
        refine ⟨false,rfl,by simp [heq,hKt],⟨?_,?_,?_,?_,?_,?_,hown2.upd (Upd.refl (fun _=>False) _).drew (fun _ _ h=>h),htb,a8.drew,htbl⟩⟩
        iterate 6 (· simp (disch:=(first|omega|(simp only [qI,qJ,qK]<;>omega)|exact qL _)) only [go_sem,k19,k18,k17,k5,k6,k8])
      ·refine W.drawR (.take 0 (.take 1 (.take 2 (.take 3 (.take 4 (.take 5 (.take 6 (.take 7 (.take 8 (.take 9 (.take 10 (.take 11 (.take 12 (.take 13 (.take 14 (.take 15 (.take 16 (.take 17 (.take 18 (.take 19 .done)))))))))))))))))))) NoB mixed (by kernel_rfl) ?_
       simp (disch:=(first|omega|(simp only [qI,qJ,qK]<;>omega)|exact qL _)) only [go_sem,k6,h9,k8,k5,htb]
       refine ⟨false,rfl,by simp [hKt];omega,⟨?_,?_,?_,?_,?_,?_,hown2.upd (Upd.refl (fun _=>False) _).drew (fun _ _ h=>h),htb,a8.drew,htbl⟩⟩
       iterate 6 (· simp (disch:=(first|omega|(simp only [qI,qJ,qK]<;>omega)|exact qL _)) only [go_sem,k19,k18,k17,k5,k6,k8])
    ·rintro ρ3 w3 ⟨bb,h58,hbb,h9,⟨k19,k18,k17,k5,k6,k8,hown3,htb,aG,htbl⟩⟩
     cases bb with
     | true =>
      simp (disch:=(first|omega|(simp only [qI,qJ,qK]<;>omega)|exact qL _)) only [go_sem]
      repeat ((first|refine qA ?_|apply qB|refine qC ?_|apply qD|apply qE|apply qF|apply qG|apply qH);try simp (disch:=(first|omega|(simp only [qI,qJ,qK]<;>omega)|exact qL _)) only [go_sem,h58,k19])
      have hins:=insTag_out (K:=K) (by omega:i≤out.length) hlo hhi (hbb.1 rfl)
      refine ⟨⟨j+1,_,css,by omega,?_,?_,?_,?_,rfl,?_,?_,by omega,aG⟩,?_⟩
      ·rfl
      iterate 3 (· simp (disch:=(first|omega|(simp only [qI,qJ,qK]<;>omega)|exact qL _)) only [go_sem,k18,k17,k5])
      ·simp (disch:=(first|omega|(simp only [qI,qJ,qK]<;>omega)|exact qL _)) only [go_sem,k6]
       exact hown3
      ·rw [hfold,hins];exact hall
      ·simp only [RowKit.intOf];omega
     | false =>
      have hnot:¬ (t.1 < K∨∃ hi:i < out.length,out[i].1=t.1):=fun h=>by simpa using hbb.2 h
      have hins:=insTag_in (K:=K) (by omega:i≤out.length) hlo hhi (fun h=>hnot (.inl h)) (fun h1 h2=>hnot (.inr ⟨h1,h2⟩))
      simp (disch:=(first|omega|(simp only [qI,qJ,qK]<;>omega)|exact qL _)) only [go_sem]
      repeat ((first|refine qA ?_|apply qB|refine qC ?_|apply qD|apply qE|apply qF|apply qG|apply qH);try simp (disch:=(first|omega|(simp only [qI,qJ,qK]<;>omega)|exact qL _)) only [go_sem,h58,k6])
      refine wp_append ap_24_24 (m:=1) (news:=[.int .u32 0,.slice none 0 0]) (n:=css.length) (cs:=css.flatten) (v:=.slice va css.length vc) ?_ rfl (hown3.alloc _).1 ?_ (Src.blk (fr:=(0,0)) (T:=63) (blk_alloc_new rfl) rfl rfl) ?_ ?_ ?_
      ·simp (disch:=(first|omega|(simp only [qI,qJ,qK]<;>omega)|exact qL _)) only [go_sem]
      ·exact hall.flat_cells
      ·simp only [World.size_alloc];omega
      ·omega
      intro v' w4 ho hu hfr
      have hz4:=hu.size
      simp (disch:=(first|omega|(simp only [qI,qJ,qK]<;>omega)|exact qL _)) only [go_sem]
      obtain ⟨va',vc',hv',hvc'⟩:=ho.shape
      subst hv'
      have aJ:=OwnE.snoc hown3.2 rfl ho rfl
      have hne:∀ b,ownB (.slice va' (css.length+1) vc') b→b≠w1.heap.size:=fun b hb e=>by
       rcases hfr b hb with h|h
       ·have:=hown.1.below h;omega
       ·simp only [World.size_alloc] at h;omega
      have aM:blk w4 w1.heap.size=some (#[.int .u32 t.1,vv],63,(0,0)):=hu.blk_some (by rw [blk_alloc_old (by omega)];exact htb) fun h=>by have:=hown.1.below h;omega
      have aI:Ext w w4:=Ext.own (aG.alloc _) hown3.1 hu
      simp only [World.size_alloc] at hz4
      repeat ((first|refine qA ?_|apply qB|refine qC ?_|apply qD|apply qE|apply qF|apply qG|apply qH);try simp (disch:=(first|omega|(simp only [qI,qJ,qK]<;>omega)|exact qL _)) only [go_sem])
      refine W.exitJ 4 (fun ρ' w'=>∃ (c:List Value),c.length=2∧ρ' 9 = .int .i64 i∧UG w N j K w1.heap.size capl (some ⟨b,o,none⟩) (.slice va' (css.length+1) vc') vv (css.take i++c :: css.drop i) t ρ' w')
       (W.loop (fun ρ' w'=>∃ (k:Nat) (c:List Value),c.length=2∧i≤k∧k≤css.length∧ρ' 10 = .int .i64 k∧ρ' 9 = .int .i64 i∧UG w N j K w1.heap.size capl (some ⟨b,o,none⟩) (.slice va' (css.length+1) vc') vv (css.take k++c :: css.drop k) t ρ' w')
        (fun ρ _=>(RowKit.intOf (ρ 10)).toNat) ?_ ?_) ?_
      ·refine ⟨css.length,[.int .u32 0,.slice none 0 0],rfl,hi,Nat.le_refl _,?_,?_,⟨?_,?_,?_,?_,?_,?_,?_,aM,aI,by omega⟩⟩
       ·simp (disch:=(first|omega|(simp only [qI,qJ,qK]<;>omega)|exact qL _)) only [go_sem]
        congr 1;omega
       iterate 7 (· simp (disch:=(first|omega|(simp only [qI,qJ,qK]<;>omega)|exact qL _)) only [go_sem,h9,k19,k18,k17,k5,k8])
       ·rw [List.take_length,List.drop_length];exact aJ
      ·rintro ρ5 w5 ⟨k,c,hc2,hik,hkl,h10,h9,⟨k19,k18,k17,k5,k6,k8,aA,aC,aB,aF⟩⟩
       by_cases hgt:i < k
       ·obtain ⟨k,rfl⟩:∃ k',k=k'+1:=⟨k - 1,by omega⟩
        have hsl:=shift_len css (k+1) c
        obtain ⟨g,cap,x2,hv,hcap,hBg,hgl,hgb,hg1,hg2,hg3⟩:=aA.view (by omega)
        rw [hsl] at hv
        cases hv
        obtain ⟨vv2,hcs,aE,h32⟩:=hall.2 k (by omega) (by omega)
        have hx2:=hg2 k (by omega)
        have hx3:=hg1 k (by omega)
        have hx4:=hg1 (k+1) (by omega)
        rw [shift_get (by omega),hcs] at hx2
        have e1:((k+1:Nat):Int) - 1=(k:Int):=by omega
        have e2:IntKind.i64.wrap (k:Int)=(k:Int):=i64_wrap (by omega)
        have hf2:=aE.flat
        have aH:=hne g ⟨_,_,_,rfl,rfl⟩
        repeat ((first|refine qA ?_|apply qB|refine qC ?_|apply qD|apply qE|apply qF|apply qG|apply qH);try simp (disch:=(first|omega|(simp only [qI,qJ,qK]<;>omega)|exact qL _)) only [go_sem,h10,h9,k6,e1,e2,hgb,hx2,hx3.1,hx4.1,hx4.2,hf2,Int.toNat_natCast])
        have hset:=aA.set (i:=k+1) (c:=[.int .u32 out[k].1,vv2]) (by omega) rfl
        rw [← hcs,shift_set (by omega),hcs] at hset
        refine ⟨⟨k,[.int .u32 out[k].1,vv2],rfl,by omega,by omega,rfl,⟨?_,?_,?_,?_,?_,?_,?_,?_,aB.wr _ _ (.inl (by omega)),by rw [size_wr];exact aF⟩⟩,?_⟩
        iterate 6 (· simp (disch:=(first|omega|(simp only [qI,qJ,qK]<;>omega)|exact qL _)) only [go_sem,k19,k18,k17,k5,k6,k8])
        ·rw [← hcs];rw [← hcs] at hset;exact hset
        ·rw [blk_wr_ne (Ne.symm aH)];exact aC
        ·simp only [RowKit.intOf];omega
       ·repeat ((first|refine qA ?_|apply qB|refine qC ?_|apply qD|apply qE|apply qF|apply qG|apply qH);try simp (disch:=(first|omega|(simp only [qI,qJ,qK]<;>omega)|exact qL _)) only [go_sem,h10,h9])
        have:k=i:=by omega
        subst this
        refine ⟨c,hc2,⟨?_,?_,?_,?_,?_,?_,aA,aC,aB,aF⟩⟩
        iterate 6 (· simp (disch:=(first|omega|(simp only [qI,qJ,qK]<;>omega)|exact qL _)) only [go_sem,k19,k18,k17,k5,k6,k8])
      ·rintro ρ5 w5 ⟨c,hc2,h9,⟨k19,k18,k17,k5,k6,k8,aA,aC,aB,aF⟩⟩
       have hsl:=shift_len css i c
       obtain ⟨g,cap,x2,hv,hcap,hBg,hgl,hgb,hg1,hg2,hg3⟩:=aA.view (by omega)
       rw [hsl] at hv
       cases hv
       have hx4:=hg1 i (by omega)
       have aH:=hne g ⟨_,_,_,rfl,rfl⟩
       have ej:IntKind.i64.wrap ((j:Int)+1)=((j+1:Nat):Int):=by rw [i64_wrap (by omega)];rfl
       simp (disch:=(first|omega|(simp only [qI,qJ,qK]<;>omega)|exact qL _)) only [go_sem]
       repeat ((first|refine qA ?_|apply qB|refine qC ?_|apply qD|apply qE|apply qF|apply qG|apply qH);try simp (disch:=(first|omega|(simp only [qI,qJ,qK]<;>omega)|exact qL _)) only [go_sem,ej,h9,k6,k8,k19,aC,cellsAt_two,hgb,hx4.1,hx4.2,hfv,Int.toNat_natCast])
       have hset:=aA.set (i:=i) (c:=[.int .u32 t.1,vv]) (by omega) rfl
       rw [shift_in (by omega)] at hset
       refine ⟨⟨j+1,_,_,by omega,rfl,k18,k17,k5,rfl,hset,?_,?_,aB.wr _ _ (.inl (by omega))⟩,?_⟩
       ·rw [hfold,hins]
        exact hall.insert (by omega) ⟨vv,rfl,hbv,aK⟩
       ·rw [shift_len];omega
       ·simp only [RowKit.intOf];omega
  ·repeat ((first|refine qA ?_|apply qB|refine qC ?_|apply qD|apply qE|apply qF|apply qG|apply qH);try simp (disch:=(first|omega|(simp only [qI,qJ,qK]<;>omega)|exact qL _)) only [go_sem,aD,h18,h6])
   have:j=N:=by omega
   subst this
   rw [← hLl,List.take_length,← hun] at hall
   exact ⟨⟨css,hown,hall⟩,hext⟩

theorem FldC.of {ok:Blocks} {w:World} {f:Fld} {vs:Value} (h:FldsV ok w vs f.sub):FldC ok w f [.int .i64 f.kind,.int .i64 f.fr,.int .i64 f.to,.int .i64 f.null,.int .i64 f.tag,.int .i64 f.df,.int .i64 f.of,vs]:=by
 cases f;exact FldC.intro h

theorem insTag_len (K:Nat) (out:List TagD) (t:TagD):(insTag K out t).length≤out.length+1:=by
 unfold insTag
 split
 ·omega
 ·have:=congrArg List.length (List.takeWhile_append_dropWhile (p:=fun x:TagD=>decide (x.1 < t.1)) (l:=out))
  simp only [List.length_append,List.length_cons] at this ⊢;omega
theorem unknownS_len (fs:List Fld) (l:List TagD):(unknownS fs l).length≤32767:=by
 have:∀ (l:List TagD) (out:List TagD),(l.foldl (insTag (knownS fs)) out).length≤out.length+l.length:=by
  intro l
  induction l with
  | nil=>intro out;simp
  | cons t l ih=>intro out;have h1:=ih (insTag (knownS fs) out t);have h2:=insTag_len (knownS fs) out t;simp only [List.foldl_cons,List.length_cons];omega
 have h:=this (l.take 32767) []
 simp only [List.length_nil,List.length_take] at h
 unfold unknownS;omega
theorem usual10 {d:Nat} {f:Fld} {t:Tree} (h10:f.kind=10):usualS (d+1) f t=((f.sub.zipIdx.all fun x=>usualS d x.1 (t.at x.2)) && decide ((unknownS f.sub t.u).length=0)):=by
 simp [usualS,h10]

abbrev UsualRec (ok:Blocks) (d:Nat) (f:Fld):Prop:=∀ g∈f.sub,∀ (t':Tree) (cg ct':List Value) (w':World),FldC ok w' g cg→TreeC ok w' t' ct'→Small 4611686018427387903 t' →
 Fn Tryz.prog 38 #[.agg cg.toArray,.agg ct'.toArray] w' fun r w''=>r = .bool (usualS d g t')∧Ext w' w''

theorem usual_k0 {ok:Blocks} (d:Nat) (f:Fld) (t:Tree) (cf ct:List Value) (w:World) (hf:FldC ok w f cf) (ht:TreeC ok w t ct) (hok:okF d f.sub=true) (hB:okB f) (hsm:Small 4611686018427387903 t)
  (hrec:UsualRec ok d f) (h0:f.kind=0) :
  Fn Tryz.prog 38 #[.agg cf.toArray,.agg ct.toArray] w fun r w'=>r = .bool (usualS (d+1) f t)∧Ext w w':=by
 obtain ⟨vs,rfl,hsub⟩:=hf.inv
 obtain ⟨vS,vL,vU,rfl,hn,hS,hL,hU⟩:=ht.inv
 have hl1:=hsm.s
 have hl2:=hsm.l
 have f0:=SlR.flat hsub
 have f1:=hS.flat
 have f2:=SlR.flat hL
 have f3:=SlR.flat hU
 obtain ⟨bS,cS,rfl,hcS⟩:=hS.shape
 obtain ⟨bL,cL,rfl,hcL⟩:=SlR.shape hL
 have hE:Ext w ((w.alloc (.cells #[.int .i64 f.kind,.int .i64 f.fr,.int .i64 f.to,.int .i64 f.null,.int .i64 f.tag,.int .i64 f.df,.int .i64 f.of,vs] 50)).alloc (.cells #[.int .i64 t.n,.slice bS t.s.length cS,.bool t.null,.slice bL t.l.length cL,vU] 26)):=Upd.alloc (Upd.alloc (Upd.refl _ _) _) _
 refine fn_of_W Tryz.func38 rfl Tryz.results38 Tryz.ntmps38 rfl ?_
 repeat ((first|refine qA ?_|apply qB|refine qC ?_|apply qD|apply qE|apply qF|apply qG|apply qH);try simp (disch:=(first|omega|(simp only [qI,qJ,qK]<;>omega)|exact qL _)) only [go_sem,f0,f1,f2,f3,and1])
 refine ⟨?_,hE⟩
 have e:(((t.n % 2).toNat:Nat):Int)=t.n % 2:=by omega
 rw [e,usualS,if_pos h0]
 by_cases h:t.n % 2=f.df<;>simp [h]

theorem usual_k8 {ok:Blocks} (d:Nat) (f:Fld) (t:Tree) (cf ct:List Value) (w:World) (hf:FldC ok w f cf) (ht:TreeC ok w t ct) (hok:okF d f.sub=true) (hB:okB f) (hsm:Small 4611686018427387903 t)
  (hrec:UsualRec ok d f) (h8:f.kind=8) :
  Fn Tryz.prog 38 #[.agg cf.toArray,.agg ct.toArray] w fun r w'=>r = .bool (usualS (d+1) f t)∧Ext w w':=by
 obtain ⟨vs,rfl,hsub⟩:=hf.inv
 obtain ⟨vS,vL,vU,rfl,hn,hS,hL,hU⟩:=ht.inv
 have hl1:=hsm.s
 have hl2:=hsm.l
 have f0:=SlR.flat hsub
 have f1:=hS.flat
 have f2:=SlR.flat hL
 have f3:=SlR.flat hU
 obtain ⟨bS,cS,rfl,hcS⟩:=hS.shape
 obtain ⟨bL,cL,rfl,hcL⟩:=SlR.shape hL
 have hE:Ext w ((w.alloc (.cells #[.int .i64 f.kind,.int .i64 f.fr,.int .i64 f.to,.int .i64 f.null,.int .i64 f.tag,.int .i64 f.df,.int .i64 f.of,vs] 50)).alloc (.cells #[.int .i64 t.n,.slice bS t.s.length cS,.bool t.null,.slice bL t.l.length cL,vU] 26)):=Upd.alloc (Upd.alloc (Upd.refl _ _) _) _
 refine fn_of_W Tryz.func38 rfl Tryz.results38 Tryz.ntmps38 rfl ?_
 by_cases hnl:0≤f.null
 ·repeat ((first|refine qA ?_|apply qB|refine qC ?_|apply qD|apply qE|apply qF|apply qG|apply qH);try simp (disch:=(first|omega|(simp only [qI,qJ,qK]<;>omega)|exact qL _)) only [go_sem,f0,f1,f2,f3])
  refine ⟨?_,hE⟩
  simp [usualS,h8,hnl]
 ·repeat ((first|refine qA ?_|apply qB|refine qC ?_|apply qD|apply qE|apply qF|apply qG|apply qH);try simp (disch:=(first|omega|(simp only [qI,qJ,qK]<;>omega)|exact qL _)) only [go_sem,f0,f1,f2,f3])
  refine ⟨?_,hE⟩
  by_cases h:t.s.length=0<;>simp [usualS,h8,hnl,h]

theorem usual_k9 {ok:Blocks} (d:Nat) (f:Fld) (t:Tree) (cf ct:List Value) (w:World) (hf:FldC ok w f cf) (ht:TreeC ok w t ct) (hok:okF d f.sub=true) (hB:okB f) (hsm:Small 4611686018427387903 t)
  (hrec:UsualRec ok d f) (h9:f.kind=9) :
  Fn Tryz.prog 38 #[.agg cf.toArray,.agg ct.toArray] w fun r w'=>r = .bool (usualS (d+1) f t)∧Ext w w':=by
 obtain ⟨vs,rfl,hsub⟩:=hf.inv
 obtain ⟨vS,vL,vU,rfl,hn,hS,hL,hU⟩:=ht.inv
 have hl1:=hsm.s
 have hl2:=hsm.l
 have f0:=SlR.flat hsub
 have f1:=hS.flat
 have f2:=SlR.flat hL
 have f3:=SlR.flat hU
 obtain ⟨bS,cS,rfl,hcS⟩:=hS.shape
 obtain ⟨bL,cL,rfl,hcL⟩:=SlR.shape hL
 have hE:Ext w ((w.alloc (.cells #[.int .i64 f.kind,.int .i64 f.fr,.int .i64 f.to,.int .i64 f.null,.int .i64 f.tag,.int .i64 f.df,.int .i64 f.of,vs] 50)).alloc (.cells #[.int .i64 t.n,.slice bS t.s.length cS,.bool t.null,.slice bL t.l.length cL,vU] 26)):=Upd.alloc (Upd.alloc (Upd.refl _ _) _) _
 refine fn_of_W Tryz.func38 rfl Tryz.results38 Tryz.ntmps38 rfl ?_
 by_cases hnl:0≤f.null
 ·repeat ((first|refine qA ?_|apply qB|refine qC ?_|apply qD|apply qE|apply qF|apply qG|apply qH);try simp (disch:=(first|omega|(simp only [qI,qJ,qK]<;>omega)|exact qL _)) only [go_sem,f0,f1,f2,f3])
  refine ⟨?_,hE⟩
  simp [usualS,h9,hnl]
 ·repeat ((first|refine qA ?_|apply qB|refine qC ?_|apply qD|apply qE|apply qF|apply qG|apply qH);try simp (disch:=(first|omega|(simp only [qI,qJ,qK]<;>omega)|exact qL _)) only [go_sem,f0,f1,f2,f3])
  refine ⟨?_,hE⟩
  by_cases h:t.s.length=0<;>simp [usualS,h9,hnl,h]

theorem usual_k11 {ok:Blocks} (d:Nat) (f:Fld) (t:Tree) (cf ct:List Value) (w:World) (hf:FldC ok w f cf) (ht:TreeC ok w t ct) (hok:okF d f.sub=true) (hB:okB f) (hsm:Small 4611686018427387903 t)
  (hrec:UsualRec ok d f) (h11:f.kind=11) :
  Fn Tryz.prog 38 #[.agg cf.toArray,.agg ct.toArray] w fun r w'=>r = .bool (usualS (d+1) f t)∧Ext w w':=by
 obtain ⟨vs,rfl,hsub⟩:=hf.inv
 obtain ⟨vS,vL,vU,rfl,hn,hS,hL,hU⟩:=ht.inv
 have hl1:=hsm.s
 have hl2:=hsm.l
 have f0:=SlR.flat hsub
 have f1:=hS.flat
 have f2:=SlR.flat hL
 have f3:=SlR.flat hU
 obtain ⟨bS,cS,rfl,hcS⟩:=hS.shape
 obtain ⟨bL,cL,rfl,hcL⟩:=SlR.shape hL
 have hE:Ext w ((w.alloc (.cells #[.int .i64 f.kind,.int .i64 f.fr,.int .i64 f.to,.int .i64 f.null,.int .i64 f.tag,.int .i64 f.df,.int .i64 f.of,vs] 50)).alloc (.cells #[.int .i64 t.n,.slice bS t.s.length cS,.bool t.null,.slice bL t.l.length cL,vU] 26)):=Upd.alloc (Upd.alloc (Upd.refl _ _) _) _
 refine fn_of_W Tryz.func38 rfl Tryz.results38 Tryz.ntmps38 rfl ?_
 repeat ((first|refine qA ?_|apply qB|refine qC ?_|apply qD|apply qE|apply qF|apply qG|apply qH);try simp (disch:=(first|omega|(simp only [qI,qJ,qK]<;>omega)|exact qL _)) only [go_sem,f0,f1,f2,f3])
 refine ⟨?_,hE⟩
 by_cases h:t.l.length=0<;>simp [usualS,h11,h]

theorem usual_k7 {ok:Blocks} (d:Nat) (f:Fld) (t:Tree) (cf ct:List Value) (w:World) (hf:FldC ok w f cf) (ht:TreeC ok w t ct) (hok:okF d f.sub=true) (hB:okB f) (hsm:Small 4611686018427387903 t)
  (hrec:UsualRec ok d f) (h7:f.kind=7) :
  Fn Tryz.prog 38 #[.agg cf.toArray,.agg ct.toArray] w fun r w'=>r = .bool (usualS (d+1) f t)∧Ext w w':=by
 obtain ⟨vs,rfl,hsub⟩:=hf.inv
 obtain ⟨vS,vL,vU,rfl,hn,hS,hL,hU⟩:=ht.inv
 have hl1:=hsm.s
 have hl2:=hsm.l
 have f0:=SlR.flat hsub
 have f1:=hS.flat
 have f2:=SlR.flat hL
 have f3:=SlR.flat hU
 obtain ⟨bS,cS,rfl,hcS⟩:=hS.shape
 obtain ⟨bL,cL,rfl,hcL⟩:=SlR.shape hL
 have hE:Ext w ((w.alloc (.cells #[.int .i64 f.kind,.int .i64 f.fr,.int .i64 f.to,.int .i64 f.null,.int .i64 f.tag,.int .i64 f.df,.int .i64 f.of,vs] 50)).alloc (.cells #[.int .i64 t.n,.slice bS t.s.length cS,.bool t.null,.slice bL t.l.length cL,vU] 26)):=Upd.alloc (Upd.alloc (Upd.refl _ _) _) _
 refine fn_of_W Tryz.func38 rfl Tryz.results38 Tryz.ntmps38 rfl ?_
 repeat ((first|refine qA ?_|apply qB|refine qC ?_|apply qD|apply qE|apply qF|apply qG|apply qH);try simp (disch:=(first|omega|(simp only [qI,qJ,qK]<;>omega)|exact qL _)) only [go_sem,f0,f1,f2,f3])
 generalize hw2:(w.alloc (.cells #[.int .i64 f.kind,.int .i64 f.fr,.int .i64 f.to,.int .i64 f.null,.int .i64 f.tag,.int .i64 f.df,.int .i64 f.of,vs] 50)).alloc (.cells #[.int .i64 t.n,.slice bS t.s.length cS,.bool t.null,.slice bL t.l.length cL,vU] 26)=w2 at *
 refine W.loop (fun ρ w'=>∃ j:Nat,j≤t.s.length∧ρ 24 = .int .i64 j∧ρ 23 = .int .i64 t.s.length∧ρ 22 = .slice bS t.s.length cS∧Ext w w'∧∀ k (hk:k < t.s.length),k < j→k < 16→t.s[k] = 0)
  (fun ρ _=>t.s.length - (RowKit.intOf (ρ 24)).toNat) ?_ ?_
 ·refine ⟨0,Nat.zero_le _,?_,?_,?_,hE,fun k hk h=>by omega⟩
  ·simp (disch:=(first|omega|(simp only [qI,qJ,qK]<;>omega)|exact qL _)) only [go_sem]
   rfl
  ·simp (disch:=(first|omega|(simp only [qI,qJ,qK]<;>omega)|exact qL _)) only [go_sem]
  ·simp (disch:=(first|omega|(simp only [qI,qJ,qK]<;>omega)|exact qL _)) only [go_sem]
 ·rintro ρ w3 ⟨j,hj,h24,h23,h22,hext,hz⟩
  by_cases hlt:j < t.s.length
  ·obtain ⟨_,b,o,x,hb,_,hx,hblt,hval⟩:=hS.get hlt
   subst hb
   have hx3:blk w3 b=some x:=hext.blk_some hx id
   have hgo:∀ hne:¬ (j < 16∧t.s[j]≠0),∀ k (hk:k < t.s.length),k < j+1→k < 16→t.s[k] = 0:=by
    intro hne k hk hk1 hk2
    rcases Nat.lt_or_ge k j with h|h
    ·exact hz k hk h hk2
    ·have:k=j:=by omega
     subst this
     exact Classical.byContradiction fun e=>hne ⟨hk2,e⟩
   by_cases h16:j < 16
   ·by_cases hz0:t.s[j] = 0
    ·have hne:((t.s[j].toNat:Int))=0:=by rw [hz0];rfl
     repeat ((first|refine qA ?_|apply qB|refine qC ?_|apply qD|apply qE|apply qF|apply qG|apply qH);try simp (disch:=(first|omega|(simp only [qI,qJ,qK]<;>omega)|exact qL _)) only [go_sem,h24,h23,h22,hx3,hval,byteV,hne,Int.toNat_natCast,Nat.mul_one])
     refine ⟨⟨j+1,by omega,rfl,hext,hgo (fun h=>h.2 hz0)⟩,?_⟩
     simp only [RowKit.intOf];omega
    ·have hne:((t.s[j].toNat:Int))≠0:=fun e=>hz0 (UInt8.toNat_inj.1 (show t.s[j].toNat=0 by omega))
     repeat ((first|refine qA ?_|apply qB|refine qC ?_|apply qD|apply qE|apply qF|apply qG|apply qH);try simp (disch:=(first|omega|(simp only [qI,qJ,qK]<;>omega)|exact qL _)) only [go_sem,h24,h23,h22,hx3,hval,byteV,hne,Int.toNat_natCast,Nat.mul_one])
     refine ⟨?_,hext⟩
     have:(t.s.take 16).all (· == 0)=false:=by
      rw [List.all_eq_false]
      refine ⟨t.s[j],?_,by simpa using hz0⟩
      rw [List.mem_take_iff_getElem]
      exact ⟨j,by omega,rfl⟩
     simp [usualS,h7,this]
   ·repeat ((first|refine qA ?_|apply qB|refine qC ?_|apply qD|apply qE|apply qF|apply qG|apply qH);try simp (disch:=(first|omega|(simp only [qI,qJ,qK]<;>omega)|exact qL _)) only [go_sem,h24,h23,h22,hx3,hval,byteV,Int.toNat_natCast,Nat.mul_one])
    refine ⟨⟨j+1,by omega,rfl,hext,hgo (fun h=>h16 h.1)⟩,?_⟩
    simp only [RowKit.intOf];omega
  ·repeat ((first|refine qA ?_|apply qB|refine qC ?_|apply qD|apply qE|apply qF|apply qG|apply qH);try simp (disch:=(first|omega|(simp only [qI,qJ,qK]<;>omega)|exact qL _)) only [go_sem,h24,h23])
   refine ⟨?_,hext⟩
   have:(t.s.take 16).all (· == 0)=true:=by
    rw [List.all_eq_true]
    intro y hy
    obtain ⟨k,hk,rfl⟩:=List.mem_take_iff_getElem.1 hy
    simpa using hz k (by omega) (by omega) (by omega)
   simp [usualS,h7,this]

theorem usual_k10 {ok:Blocks} (d:Nat) (f:Fld) (t:Tree) (cf ct:List Value) (w:World) (hf:FldC ok w f cf) (ht:TreeC ok w t ct) (hok:okF d f.sub=true) (hB:okB f) (hsm:Small 4611686018427387903 t)
  (hrec:UsualRec ok d f) (h10:f.kind=10) :
  Fn Tryz.prog 38 #[.agg cf.toArray,.agg ct.toArray] w fun r w'=>r = .bool (usualS (d+1) f t)∧Ext w w':=by
 obtain ⟨vs,rfl,hsub⟩:=hf.inv
 obtain ⟨vS,vL,vU,rfl,hn,hS,hL,hU⟩:=ht.inv
 have hl1:=hsm.s
 have hl2:=hsm.l
 have f0:=SlR.flat hsub
 have f1:=hS.flat
 have f2:=SlR.flat hL
 have f3:=SlR.flat hU
 obtain ⟨bS,cS,rfl,hcS⟩:=hS.shape
 obtain ⟨bL,cL,rfl,hcL⟩:=SlR.shape hL
 have hE:Ext w ((w.alloc (.cells #[.int .i64 f.kind,.int .i64 f.fr,.int .i64 f.to,.int .i64 f.null,.int .i64 f.tag,.int .i64 f.df,.int .i64 f.of,vs] 50)).alloc (.cells #[.int .i64 t.n,.slice bS t.s.length cS,.bool t.null,.slice bL t.l.length cL,vU] 26)):=Upd.alloc (Upd.alloc (Upd.refl _ _) _) _
 refine fn_of_W Tryz.func38 rfl Tryz.results38 Tryz.ntmps38 rfl ?_
 obtain ⟨bf,cf,rfl,hcf⟩:=SlR.shape hsub
 have hfl:=okF_len hok
 repeat ((first|refine qA ?_|apply qB|refine qC ?_|apply qD|apply qE|apply qF|apply qG|apply qH);try simp (disch:=(first|omega|(simp only [qI,qJ,qK]<;>omega)|exact qL _)) only [go_sem,f0,f1,f2,f3])
 generalize hw2:(w.alloc (.cells #[.int .i64 f.kind,.int .i64 f.fr,.int .i64 f.to,.int .i64 f.null,.int .i64 f.tag,.int .i64 f.df,.int .i64 f.of,.slice bf f.sub.length cf] 50)).alloc (.cells #[.int .i64 t.n,.slice bS t.s.length cS,.bool t.null,.slice bL t.l.length cL,vU] 26)=w2 at *
 have hb0:blk w2 w.heap.size=some (#[.int .i64 f.kind,.int .i64 f.fr,.int .i64 f.to,.int .i64 f.null,.int .i64 f.tag,.int .i64 f.df,.int .i64 f.of,.slice bf f.sub.length cf],50,(0,0)):=by
  rw [← hw2,blk_alloc_old (by simp only [World.size_alloc];omega),blk_alloc_new rfl]
 have hb1:blk w2 (w.heap.size+1)=some (#[.int .i64 t.n,.slice bS t.s.length cS,.bool t.null,.slice bL t.l.length cL,vU],26,(0,0)):=by
  rw [← hw2,blk_alloc_new (by simp only [World.size_alloc])]
 have hz2:w2.heap.size=w.heap.size+2:=by rw [← hw2];simp only [World.size_alloc]
 clear hw2
 refine W.loop (fun ρ w'=>∃ j:Nat,j≤f.sub.length∧ρ 59 = .int .i64 j∧ρ 58 = .int .i64 f.sub.length∧ρ 57 = .slice bf f.sub.length cf∧ρ 2 = .pointer (some ⟨w.heap.size,0,none⟩)∧ρ 3 = .pointer (some ⟨w.heap.size+1,0,none⟩)∧Ext w2 w'∧∀ k (hk:k < f.sub.length),k < j→usualS d f.sub[k] (t.at k)=true)
  (fun ρ _=>f.sub.length - (RowKit.intOf (ρ 59)).toNat) ?_ ?_
 ·refine ⟨0,Nat.zero_le _,?_,?_,?_,?_,?_,Upd.refl _ _,fun k hk h=>by omega⟩
  ·simp (disch:=(first|omega|(simp only [qI,qJ,qK]<;>omega)|exact qL _)) only [go_sem]
   rfl
  iterate 4 (· simp (disch:=(first|omega|(simp only [qI,qJ,qK]<;>omega)|exact qL _)) only [go_sem])
 ·rintro ρ w3 ⟨j,hj,aB,h58,h57,h2,h3,hext,hz⟩
  have hz3:=hext.size
  have a8:Ext w w3:=hE.trans hext
  by_cases hlt:j < f.sub.length
  ·obtain ⟨_,b,o,x,vs2,hb,hokb,hx,hblt,hxs,hxe,hfl2,hsub2⟩:=FldsV.get hsub hlt
   subst hb
   have hx3:blk w3 b=some x:=a8.blk_some hx id
   have hb13:=hext.blk_some hb1 id
   repeat ((first|refine qA ?_|apply qB|refine qC ?_|apply qD|apply qE|apply qF|apply qG|apply qH);try simp (disch:=(first|omega|(simp only [qI,qJ,qK]<;>omega)|exact qL _)) only [go_sem,aB,h58,h57,hx3,hxe,hfl2,Int.toNat_natCast])
   refine W.drawR (.take 0 (.take 1 (.take 2 (.only 3 (.only 4 (.take 5 .done)))))) NoB mixed (by kernel_rfl) ?_
   simp (disch:=(first|omega|(simp only [qI,qJ,qK]<;>omega)|exact qL _)) only [go_sem,h2,h3,hb13,cellsAt_five,cellsAt_eight]
   have hE4:Ext w3 (wr (w3.alloc (.cells #[.int .i64 0,.int .i64 0,.int .i64 0,.int .i64 0,.int .i64 0,.int .i64 0,.int .i64 0,.slice none 0 0] 50)) w3.heap.size 0 [.int .i64 f.sub[j].kind,.int .i64 f.sub[j].fr,.int .i64 f.sub[j].to,.int .i64 f.sub[j].null,.int .i64 f.sub[j].tag,.int .i64 f.sub[j].df,.int .i64 f.sub[j].of,vs2]).drew :=
    ((Upd.alloc (Upd.refl _ _) _).wr _ _ (.inl (Nat.le_refl _))).drew
   generalize (wr (w3.alloc (.cells #[.int .i64 0,.int .i64 0,.int .i64 0,.int .i64 0,.int .i64 0,.int .i64 0,.int .i64 0,.slice none 0 0] 50)) w3.heap.size 0 [.int .i64 f.sub[j].kind,.int .i64 f.sub[j].fr,.int .i64 f.sub[j].to,.int .i64 f.sub[j].null,.int .i64 f.sub[j].tag,.int .i64 f.sub[j].df,.int .i64 f.sub[j].of,vs2]).drew=w4 at *
   refine (at_fn t j _ w4 (ht.keep (Ext.keeps (a8.trans hE4) _)) (by omega) (by omega)).mono ?_
   rintro v5 w5 ⟨⟨c5,rfl,hc5⟩,hE5⟩
   refine ⟨hE5,?_⟩
   have hE05:Ext w w5:=(a8.trans hE4).trans hE5
   refine (hrec f.sub[j] (List.getElem_mem hlt) (t.at j) _ _ w5 (FldC.of (hsub2.keep (hE05.keeps _))) hc5 (hsm.at j)).mono ?_
   rintro v6 w6 ⟨rfl,hE6⟩
   refine ⟨hE5.trans hE6,?_⟩
   have hE26:Ext w2 w6:=((hext.trans hE4).trans hE5).trans hE6
   by_cases hr:usualS d f.sub[j] (t.at j)=true
   ·simp (disch:=(first|omega|(simp only [qI,qJ,qK]<;>omega)|exact qL _)) only [go_sem,hr]
    repeat ((first|refine qA ?_|apply qB|refine qC ?_|apply qD|apply qE|apply qF|apply qG|apply qH);try simp (disch:=(first|omega|(simp only [qI,qJ,qK]<;>omega)|exact qL _)) only [go_sem,aB,hr])
    refine ⟨⟨j+1,by omega,rfl,h58,h57,h2,h3,hE26,fun k hk hk1 => ?_⟩,?_⟩
    ·rcases Nat.lt_or_ge k j with h|h
     ·exact hz k hk h
     ·have:k=j:=by omega
      subst this;exact hr
    ·simp only [RowKit.intOf];omega
   ·have hr':usualS d f.sub[j] (t.at j)=false:=by simpa using hr
    simp (disch:=(first|omega|(simp only [qI,qJ,qK]<;>omega)|exact qL _)) only [go_sem,hr']
    repeat ((first|refine qA ?_|apply qB|refine qC ?_|apply qD|apply qE|apply qF|apply qG|apply qH);try simp (disch:=(first|omega|(simp only [qI,qJ,qK]<;>omega)|exact qL _)) only [go_sem,aB,hr'])
    refine ⟨?_,hE05.trans hE6⟩
    have hall:(f.sub.zipIdx.all fun x=>usualS d x.1 (t.at x.2))=false:=by
     cases e:(f.sub.zipIdx.all fun x=>usualS d x.1 (t.at x.2)) with
     | false=>rfl
     | true=>exact absurd ((zipIdx_all _ _).1 e j hlt) hr
    rw [usual10 h10,hall];rfl
  ·have hb03:=hext.blk_some hb0 id
   have hb13:=hext.blk_some hb1 id
   repeat ((first|refine qA ?_|apply qB|refine qC ?_|apply qD|apply qE|apply qF|apply qG|apply qH);try simp (disch:=(first|omega|(simp only [qI,qJ,qK]<;>omega)|exact qL _)) only [go_sem,aB,h58,h2,h3,hb03,hb13])
   refine (unknown_fn f.sub _ t.u _ w3 (hsub.keep (a8.keeps _)) hfl (okF_tag hok) (hU.keep (a8.keeps _))).mono ?_
   rintro v5 w5 ⟨⟨css,hown,hall⟩,hE5⟩
   obtain ⟨va,vc,rfl,hvc⟩:=hown.shape
   have hcl:=hall.1
   have hul:=unknownS_len f.sub t.u
   have hall:(f.sub.zipIdx.all fun x=>usualS d x.1 (t.at x.2))=true:=(zipIdx_all _ _).2 fun i hi=>hz i hi (by omega)
   by_cases hz0:css.length=0
   ·simp (disch:=(first|omega|(simp only [qI,qJ,qK]<;>omega)|exact qL _)) only [go_sem]
    repeat ((first|refine qA ?_|apply qB|refine qC ?_|apply qD|apply qE|apply qF|apply qG|apply qH);try simp (disch:=(first|omega|(simp only [qI,qJ,qK]<;>omega)|exact qL _)) only [go_sem])
    exact ⟨by rw [usual10 h10,hall,hcl,hz0];rfl,a8.trans hE5⟩
   ·simp (disch:=(first|omega|(simp only [qI,qJ,qK]<;>omega)|exact qL _)) only [go_sem]
    repeat ((first|refine qA ?_|apply qB|refine qC ?_|apply qD|apply qE|apply qF|apply qG|apply qH);try simp (disch:=(first|omega|(simp only [qI,qJ,qK]<;>omega)|exact qL _)) only [go_sem])
    exact ⟨by rw [usual10 h10,hall,hcl];simp [hz0],a8.trans hE5⟩

theorem usual_kd {ok:Blocks} (d:Nat) (f:Fld) (t:Tree) (cf ct:List Value) (w:World) (hf:FldC ok w f cf) (ht:TreeC ok w t ct) (hok:okF d f.sub=true) (hB:okB f) (hsm:Small 4611686018427387903 t)
  (hrec:UsualRec ok d f) (h0:f.kind≠0) (h7:f.kind≠7) (h8:f.kind≠8) (h9:f.kind≠9) (h11:f.kind≠11) (h10:f.kind≠10) :
  Fn Tryz.prog 38 #[.agg cf.toArray,.agg ct.toArray] w fun r w'=>r = .bool (usualS (d+1) f t)∧Ext w w':=by
 obtain ⟨vs,rfl,hsub⟩:=hf.inv
 obtain ⟨vS,vL,vU,rfl,hn,hS,hL,hU⟩:=ht.inv
 have hl1:=hsm.s
 have hl2:=hsm.l
 have f0:=SlR.flat hsub
 have f1:=hS.flat
 have f2:=SlR.flat hL
 have f3:=SlR.flat hU
 obtain ⟨bS,cS,rfl,hcS⟩:=hS.shape
 obtain ⟨bL,cL,rfl,hcL⟩:=SlR.shape hL
 have hE:Ext w ((w.alloc (.cells #[.int .i64 f.kind,.int .i64 f.fr,.int .i64 f.to,.int .i64 f.null,.int .i64 f.tag,.int .i64 f.df,.int .i64 f.of,vs] 50)).alloc (.cells #[.int .i64 t.n,.slice bS t.s.length cS,.bool t.null,.slice bL t.l.length cL,vU] 26)):=Upd.alloc (Upd.alloc (Upd.refl _ _) _) _
 refine fn_of_W Tryz.func38 rfl Tryz.results38 Tryz.ntmps38 rfl ?_
 repeat ((first|refine qA ?_|apply qB|refine qC ?_|apply qD|apply qE|apply qF|apply qG|apply qH);try simp (disch:=(first|omega|(simp only [qI,qJ,qK]<;>omega)|exact qL _)) only [go_sem,f0,f1,f2,f3])
 refine W.drawR (.take 0 (.take 1 (.take 2 (.take 3 (.take 6 (.take 7 (.take 8 (.take 9 (.only 4 (.only 5 (.only 10 (.only 11 (.only 12 (.only 13 .done)))))))))))))) NoB mixed (by kernel_rfl) ?_
 simp (disch:=(first|omega|(simp only [qI,qJ,qK]<;>omega)|exact qL _)) only [go_sem,f0,f1,f2,f3]
 have hw4:=hE.drew
 generalize ((w.alloc (.cells #[.int .i64 f.kind,.int .i64 f.fr,.int .i64 f.to,.int .i64 f.null,.int .i64 f.tag,.int .i64 f.df,.int .i64 f.of,vs] 50)).alloc (.cells #[.int .i64 t.n,.slice bS t.s.length cS,.bool t.null,.slice bL t.l.length cL,vU] 26)).drew=w4 at *
 refine (Width_fn f.kind _).mono ?_
 rintro _ _ ⟨rfl,rfl⟩
 refine ⟨Upd.refl _ _,?_⟩
 refine (Fixed_fn t.n (widthS f.kind) (widthS_le _) _).mono ?_
 rintro v5 w5 ⟨ho5,he5⟩
 refine ⟨he5,?_⟩
 refine (Width_fn f.kind _).mono ?_
 rintro _ _ ⟨rfl,rfl⟩
 refine ⟨he5,?_⟩
 refine (Fixed_fn f.df (widthS f.kind) (widthS_le _) _).mono ?_
 rintro v6 w6 ⟨ho6,aA⟩
 refine ⟨he5.trans aA,?_⟩
 have hle:=widthS_le f.kind
 refine (Same_fn (ok:=AnyB) _ _ v5 v6 w6 ((Own.bytes ho5 fun _ _=>trivial).keep (aA.keeps _)) (Own.bytes ho6 fun _ _=>trivial) (by rw [fixedS_len];omega)).mono ?_
 rintro v7 w7 ⟨rfl,aC⟩
 refine ⟨(he5.trans aA).trans aC,(he5.trans aA).trans aC,?_⟩
 repeat ((first|refine qA ?_|apply qB|refine qC ?_|apply qD|apply qE|apply qF|apply qG|apply qH);try simp (disch:=(first|omega|(simp only [qI,qJ,qK]<;>omega)|exact qL _)) only [go_sem])
 refine ⟨?_,((hw4.trans he5).trans aA).trans aC⟩
 simp [usualS,h0,h7,h8,h9,h10,h11]

theorem usual_fn {ok:Blocks} (d:Nat):∀ (f:Fld) (t:Tree) (cf ct:List Value) (w:World),FldC ok w f cf→TreeC ok w t ct→okF d f.sub=true→okB f→Small 4611686018427387903 t →
  Fn Tryz.prog 38 #[.agg cf.toArray,.agg ct.toArray] w fun r w'=>r = .bool (usualS (d+1) f t)∧Ext w w':=by
 induction d using Nat.strongRecOn with
 | _ d ih =>
 intro f t cf ct w hf ht hok hB hsm
 have hrec:UsualRec ok d f:=fun g hg t' cg ct' w' h1 h2 h3=>by
  obtain ⟨e,rfl,h4,h5⟩:=okF_el hok hg
  exact ih e (by omega) g t' cg ct' w' h1 h2 h5 h4 h3
 by_cases h0:f.kind=0
 ·exact usual_k0 d f t cf ct w hf ht hok hB hsm hrec h0
 by_cases h7:f.kind=7
 ·exact usual_k7 d f t cf ct w hf ht hok hB hsm hrec h7
 by_cases h8:f.kind=8
 ·exact usual_k8 d f t cf ct w hf ht hok hB hsm hrec h8
 by_cases h9:f.kind=9
 ·exact usual_k9 d f t cf ct w hf ht hok hB hsm hrec h9
 by_cases h11:f.kind=11
 ·exact usual_k11 d f t cf ct w hf ht hok hB hsm hrec h11
 by_cases h10:f.kind=10
 ·exact usual_k10 d f t cf ct w hf ht hok hB hsm hrec h10
 exact usual_kd d f t cf ct w hf ht hok hB hsm hrec h0 h7 h8 h9 h11 h10
end Ms

