/- A part of the proof: see the last text. -/
import Derived.Test.YtmkpongjkjdcaaaGreatDoorC03
import Derived.Test.YtmkpongjkjdcaaaGreatDoorC04
import Derived.Test.YtmkpongjkjdcaaaGreatDoorC05
import Derived.Test.YtmkpongjkjdcaaaGreatDoorC09
import Derived.Test.YtmkpongjkjdcaaaGreatDoorC10
set_option linter.unusedSimpArgs false
set_option linter.unusedVariables false
namespace Ms
open Go.World renaming size_alloc → qI
open Ms renaming size_wr → qJ,size_drew → qK,not_noB → qL
open W renaming seqR → qA,seq → qB,regR → qC,condK → qD,block → qE,skip → qF,ret → qG,exit → qH
open Nat renaming reduceEqDiff → n0,reduceAdd → n1,reduceMul → n2,reduceSub → n3,reduceLT → n4,reduceLeDiff → n5
open Int renaming reduceEq → i0,reduceLT → i1,reduceLE → i2,reduceNeg → i3,reduceAdd → i4,reduceSub → i5,reduceMul → i6,reduceToNat → i7
set_option maxRecDepth 8000
set_option maxHeartbeats 24000000
open Go Go.Proofs Go.Shelf
attribute [local congr] W_congr WPsq_congr WPp_congr optK_congr addrK_congr intK_congr boolK_congr sliceK_congr tupleK_congr funcK_congr Fn_congr rawK_congr takeK_congr stepK_congr convK_congr aggK_congr

theorem Frame_fn (key ver number:Int) (hn : -2147483648≤number∧number < 2147483648) (has flex:Bool) (id body:List UInt8) (vi vb:Value) (w:World) (hi:BytesV AnyB w vi id) (hb:BytesV AnyB w vb body) (hil:id.length≤32767) (hbl:body.length≤2 ^ 40) :
  Fn Tryz.prog 12 #[.int .i64 key,.int .i64 ver,.int .i32 number,.bool has,vi,.bool flex,vb] w fun r w'=>OwnBy 5 w.heap.size w' r (frameS key ver number (!has) id flex body)∧Ext w w':=by
 obtain ⟨ai,ci,rfl,_⟩:=hi.shape
 obtain ⟨ab,cb,rfl,_⟩:=hb.shape
 have ew:IntKind.i64.wrap number=number:=i64_wrap (by omega)
 refine fn_of_W Tryz.func12 rfl Tryz.results12 Tryz.ntmps12 rfl ?_
 repeat ((first|refine qA rfl ?_|apply qB|refine qC rfl ?_|apply qD|apply qE|apply qF|apply qG|apply qH);try simp (disch:=(first|omega|(simp only [qI,qJ,qK]<;>omega)|exact qL _)) only [go_sem,↓reduceIte,n0,reduceCtorEq,n1,n2,n3,n4,n5,i0,i1,i2,i3,i4,i5,i6,i7,ew])
 refine (Fixed_fn (key) 2 (by omega) w).mono ?_
 rintro v1 w1 ⟨hf1,hx1⟩
 obtain ⟨oa1,oc1,rfl,_⟩:=Own.shape hf1
 have hE1:Ext w w1:=hx1
 have hz1:=hE1.size
 try simp (disch:=(first|omega|(simp only [qI,qJ,qK]<;>omega)|exact qL _)) only [go_sem,↓reduceIte,n0,reduceCtorEq,n1,n2,n3,n4,n5,i0,i1,i2,i3,i4,i5,i6,i7,ew]
 refine (Fixed_fn (ver) 2 (by omega) w1).mono ?_
 rintro v2 w2 ⟨hf2,hx2⟩
 obtain ⟨oa2,oc2,rfl,_⟩:=Own.shape hf2
 have hE2:Ext w w2:=(hE1).trans hx2
 have hz2:=hE2.size
 try simp (disch:=(first|omega|(simp only [qI,qJ,qK]<;>omega)|exact qL _)) only [go_sem,↓reduceIte,n0,reduceCtorEq,n1,n2,n3,n4,n5,i0,i1,i2,i3,i4,i5,i6,i7,ew]
 refine wp_append ap_24_24 (B:=w.heap.size) (n:=(fixedS key 2).length) (cs:=(fixedS key 2).map byteV) (m:=(fixedS ver 2).length) (news:=(fixedS ver 2).map byteV) (v:=.slice oa1 (fixedS key 2).length oc1) (u:=.slice oa2 (fixedS ver 2).length oc2) (by first|rfl|simp (disch:=(first|omega|(simp only [qI,qJ,qK]<;>omega)|exact qL _)) only [go_sem,↓reduceIte,n0,reduceCtorEq,n1,n2,n3,n4,n5,i0,i1,i2,i3,i4,i5,i6,i7]) (by first|rfl|simp (disch:=(first|omega|(simp only [qI,qJ,qK]<;>omega)|exact qL _)) only [go_sem,↓reduceIte,n0,reduceCtorEq,n1,n2,n3,n4,n5,i0,i1,i2,i3,i4,i5,i6,i7]) (Own.upd hf1 hx2 (fun _ _ h=>h)) (flat_bytes _) ((Own.bytes (ok:=AnyB) hf2 fun _ _=>trivial).src) (by have:=(hE2).size;omega) (by first|omega|(simp only [List.length_append,fixedS_len,List.length_cons,List.length_nil];omega)) ?_
 intro v3 w3 h3 hU3 hfr3
 have ho3:OwnBy 5 w.heap.size w3 v3 ((fixedS key 2)++(fixedS ver 2)):=OwnBy.app (s:=fixedS key 2) (t:=fixedS ver 2) h3 rfl
 have hE3:Ext w w3:=(hE2).more hU3 fun b hb h=>by have:=Own.above (Own.upd hf1 hx2 (fun _ _ h=>h)) h;omega
 have hz3:=hE3.size
 obtain ⟨oa3,oc3,rfl,_⟩:=Own.shape ho3
 repeat (first|simp (disch:=(first|omega|(simp only [qI,qJ,qK]<;>omega)|exact qL _)) only [go_sem,↓reduceIte,n0,reduceCtorEq,n1,n2,n3,n4,n5,i0,i1,i2,i3,i4,i5,i6,i7,ew]|refine qA rfl ?_|apply qB|refine qC rfl ?_|apply qD|apply qE|apply qF|apply qG|apply qH)
 refine (Fixed_fn (number) 4 (by omega) w3).mono ?_
 rintro v4 w4 ⟨hf4,hx4⟩
 obtain ⟨oa4,oc4,rfl,_⟩:=Own.shape hf4
 have hE4:Ext w w4:=(hE3).trans hx4
 have hz4:=hE4.size
 try simp (disch:=(first|omega|(simp only [qI,qJ,qK]<;>omega)|exact qL _)) only [go_sem,↓reduceIte,n0,reduceCtorEq,n1,n2,n3,n4,n5,i0,i1,i2,i3,i4,i5,i6,i7,ew]
 refine wp_append ap_24_24 (B:=w.heap.size) (n:=((fixedS key 2)++(fixedS ver 2)).length) (cs:=((fixedS key 2)++(fixedS ver 2)).map byteV) (m:=(fixedS number 4).length) (news:=(fixedS number 4).map byteV) (v:=.slice oa3 ((fixedS key 2)++(fixedS ver 2)).length oc3) (u:=.slice oa4 (fixedS number 4).length oc4) (by first|rfl|simp (disch:=(first|omega|(simp only [qI,qJ,qK]<;>omega)|exact qL _)) only [go_sem,↓reduceIte,n0,reduceCtorEq,n1,n2,n3,n4,n5,i0,i1,i2,i3,i4,i5,i6,i7]) (by first|rfl|simp (disch:=(first|omega|(simp only [qI,qJ,qK]<;>omega)|exact qL _)) only [go_sem,↓reduceIte,n0,reduceCtorEq,n1,n2,n3,n4,n5,i0,i1,i2,i3,i4,i5,i6,i7]) (Own.upd ho3 hx4 (fun _ _ h=>h)) (flat_bytes _) ((Own.bytes (ok:=AnyB) hf4 fun _ _=>trivial).src) (by have:=(hE4).size;omega) (by first|omega|(simp only [List.length_append,fixedS_len,List.length_cons,List.length_nil];omega)) ?_
 intro v5 w5 h5 hU5 hfr5
 have ho5:OwnBy 5 w.heap.size w5 v5 (((fixedS key 2)++(fixedS ver 2))++(fixedS number 4)):=OwnBy.app (s:=(fixedS key 2)++(fixedS ver 2)) (t:=fixedS number 4) h5 rfl
 have hE5:Ext w w5:=(hE4).more hU5 fun b hb h=>by have:=Own.above (Own.upd ho3 hx4 (fun _ _ h=>h)) h;omega
 have hz5:=hE5.size
 obtain ⟨oa5,oc5,rfl,_⟩:=Own.shape ho5
 try simp (disch:=(first|omega|(simp only [qI,qJ,qK]<;>omega)|exact qL _)) only [go_sem,↓reduceIte,n0,reduceCtorEq,n1,n2,n3,n4,n5,i0,i1,i2,i3,i4,i5,i6,i7,ew]
 have hl5:(((fixedS key 2)++(fixedS ver 2))++(fixedS number 4)).length=8:=by simp only [List.length_append,fixedS_len]
 generalize hs5:((fixedS key 2)++(fixedS ver 2))++(fixedS number 4)=s5 at *
 try repeat ((first|refine W.seqR rfl ?_|refine W.seq ?_|refine W.regR rfl ?_|refine W.block ?_|refine W.skip ?_|refine W.ret ?_|refine W.exit ?_);try simp (disch:=(first|omega|(simp only [qI,qJ,qK]<;>omega)|exact qL _)) only [go_sem,↓reduceIte,n0,reduceCtorEq,n1,n2,n3,n4,n5,i0,i1,i2,i3,i4,i5,i6,i7])
 repeat refine W.seq ?_
 refine W.normJ (RowQ [(5,.bool flex),(6,.slice ab body.length cb)] 15 (fun v w'=>OwnBy 5 w.heap.size w' v (s5++if (!has)=true then fixedS (-1) 2 else fixedS id.length 2++id)∧Ext w w')) ?_ ?_
 ·skip
  cases has with
  | false =>
   repeat ((first|refine qA rfl ?_|apply qB|refine qC rfl ?_|apply qD|apply qE|apply qF|apply qG|apply qH);try simp (disch:=(first|omega|(simp only [qI,qJ,qK]<;>omega)|exact qL _)) only [go_sem,↓reduceIte,n0,reduceCtorEq,n1,n2,n3,n4,n5,i0,i1,i2,i3,i4,i5,i6,i7,ew])
   refine (Fixed_fn (-1) 2 (by omega) w5).mono ?_
   rintro v6 w6 ⟨hf6,hx6⟩
   obtain ⟨oa6,oc6,rfl,_⟩:=Own.shape hf6
   have hE6:Ext w w6:=(hE5).trans hx6
   have hz6:=hE6.size
   try simp (disch:=(first|omega|(simp only [qI,qJ,qK]<;>omega)|exact qL _)) only [go_sem,↓reduceIte,n0,reduceCtorEq,n1,n2,n3,n4,n5,i0,i1,i2,i3,i4,i5,i6,i7,ew]
   refine wp_append ap_24_24 (B:=w.heap.size) (n:=(s5).length) (cs:=(s5).map byteV) (m:=(fixedS (-1) 2).length) (news:=(fixedS (-1) 2).map byteV) (v:=.slice oa5 (s5).length oc5) (u:=.slice oa6 (fixedS (-1) 2).length oc6) (by first|rfl|simp (disch:=(first|omega|(simp only [qI,qJ,qK]<;>omega)|exact qL _)) only [go_sem,↓reduceIte,n0,reduceCtorEq,n1,n2,n3,n4,n5,i0,i1,i2,i3,i4,i5,i6,i7]) (by first|rfl|simp (disch:=(first|omega|(simp only [qI,qJ,qK]<;>omega)|exact qL _)) only [go_sem,↓reduceIte,n0,reduceCtorEq,n1,n2,n3,n4,n5,i0,i1,i2,i3,i4,i5,i6,i7]) (Own.upd ho5 hx6 (fun _ _ h=>h)) (flat_bytes _) ((Own.bytes (ok:=AnyB) hf6 fun _ _=>trivial).src) (by have:=(hE6).size;omega) (by first|omega|(simp only [List.length_append,fixedS_len,List.length_cons,List.length_nil];omega)) ?_
   intro v7 w7 h7 hU7 hfr7
   have ho7:OwnBy 5 w.heap.size w7 v7 ((s5)++(fixedS (-1) 2)):=OwnBy.app (s:=s5) (t:=fixedS (-1) 2) h7 rfl
   have hE7:Ext w w7:=(hE6).more hU7 fun b hb h=>by have:=Own.above (Own.upd ho5 hx6 (fun _ _ h=>h)) h;omega
   have hz7:=hE7.size
   obtain ⟨oa7,oc7,rfl,_⟩:=Own.shape ho7
   repeat (first|simp (disch:=(first|omega|(simp only [qI,qJ,qK]<;>omega)|exact qL _)) only [go_sem,↓reduceIte,n0,reduceCtorEq,n1,n2,n3,n4,n5,i0,i1,i2,i3,i4,i5,i6,i7,ew]|refine qA rfl ?_|apply qB|refine qC rfl ?_|apply qD|apply qE|apply qF|apply qG|apply qH)
   exact ⟨(by simp (disch:=(first|omega|(simp only [qI,qJ,qK]<;>omega)|exact qL _)) only [go_sem,↓reduceIte,n0,reduceCtorEq,n1,n2,n3,n4,n5,i0,i1,i2,i3,i4,i5,i6,i7,Holds_nil,Holds_cons]),_,(by simp (disch:=(first|omega|(simp only [qI,qJ,qK]<;>omega)|exact qL _)) only [go_sem,↓reduceIte,n0,reduceCtorEq,n1,n2,n3,n4,n5,i0,i1,i2,i3,i4,i5,i6,i7]),ho7,hE7⟩
  | true =>
   repeat ((first|refine qA rfl ?_|apply qB|refine qC rfl ?_|apply qD|apply qE|apply qF|apply qG|apply qH);try simp (disch:=(first|omega|(simp only [qI,qJ,qK]<;>omega)|exact qL _)) only [go_sem,↓reduceIte,n0,reduceCtorEq,n1,n2,n3,n4,n5,i0,i1,i2,i3,i4,i5,i6,i7,ew])
   refine (Fixed_fn ((id.length:Int)) 2 (by omega) w5).mono ?_
   rintro v6 w6 ⟨hf6,hx6⟩
   obtain ⟨oa6,oc6,rfl,_⟩:=Own.shape hf6
   have hE6:Ext w w6:=(hE5).trans hx6
   have hz6:=hE6.size
   try simp (disch:=(first|omega|(simp only [qI,qJ,qK]<;>omega)|exact qL _)) only [go_sem,↓reduceIte,n0,reduceCtorEq,n1,n2,n3,n4,n5,i0,i1,i2,i3,i4,i5,i6,i7,ew]
   refine wp_append ap_24_24 (B:=w.heap.size) (n:=(s5).length) (cs:=(s5).map byteV) (m:=(fixedS (id.length:Int) 2).length) (news:=(fixedS (id.length:Int) 2).map byteV) (v:=.slice oa5 (s5).length oc5) (u:=.slice oa6 (fixedS (id.length:Int) 2).length oc6) (by first|rfl|simp (disch:=(first|omega|(simp only [qI,qJ,qK]<;>omega)|exact qL _)) only [go_sem,↓reduceIte,n0,reduceCtorEq,n1,n2,n3,n4,n5,i0,i1,i2,i3,i4,i5,i6,i7]) (by first|rfl|simp (disch:=(first|omega|(simp only [qI,qJ,qK]<;>omega)|exact qL _)) only [go_sem,↓reduceIte,n0,reduceCtorEq,n1,n2,n3,n4,n5,i0,i1,i2,i3,i4,i5,i6,i7]) (Own.upd ho5 hx6 (fun _ _ h=>h)) (flat_bytes _) ((Own.bytes (ok:=AnyB) hf6 fun _ _=>trivial).src) (by have:=(hE6).size;omega) (by first|omega|(simp only [List.length_append,fixedS_len,List.length_cons,List.length_nil];omega)) ?_
   intro v7 w7 h7 hU7 hfr7
   have ho7:OwnBy 5 w.heap.size w7 v7 ((s5)++(fixedS (id.length:Int) 2)):=OwnBy.app (s:=s5) (t:=fixedS (id.length:Int) 2) h7 rfl
   have hE7:Ext w w7:=(hE6).more hU7 fun b hb h=>by have:=Own.above (Own.upd ho5 hx6 (fun _ _ h=>h)) h;omega
   have hz7:=hE7.size
   obtain ⟨oa7,oc7,rfl,_⟩:=Own.shape ho7
   try simp (disch:=(first|omega|(simp only [qI,qJ,qK]<;>omega)|exact qL _)) only [go_sem,↓reduceIte,n0,reduceCtorEq,n1,n2,n3,n4,n5,i0,i1,i2,i3,i4,i5,i6,i7,ew]
   refine wp_append ap_24_24 (B:=w.heap.size) (n:=(s5++fixedS (id.length:Int) 2).length) (cs:=(s5++fixedS (id.length:Int) 2).map byteV) (m:=(id).length) (news:=(id).map byteV) (v:=.slice oa7 (s5++fixedS (id.length:Int) 2).length oc7) (u:=.slice ai id.length ci) (by first|rfl|simp (disch:=(first|omega|(simp only [qI,qJ,qK]<;>omega)|exact qL _)) only [go_sem,↓reduceIte,n0,reduceCtorEq,n1,n2,n3,n4,n5,i0,i1,i2,i3,i4,i5,i6,i7]) (by first|rfl|simp (disch:=(first|omega|(simp only [qI,qJ,qK]<;>omega)|exact qL _)) only [go_sem,↓reduceIte,n0,reduceCtorEq,n1,n2,n3,n4,n5,i0,i1,i2,i3,i4,i5,i6,i7]) (ho7) (flat_bytes _) (((hi.keep (Ext.keeps hE7 _)).src)) (by have:=(hE7).size;omega) (by first|omega|(simp only [List.length_append,fixedS_len,List.length_cons,List.length_nil];omega)) ?_
   intro v8 w8 h8 hU8 hfr8
   have ho8:OwnBy 5 w.heap.size w8 v8 ((s5++fixedS (id.length:Int) 2)++(id)):=OwnBy.app (s:=s5++fixedS (id.length:Int) 2) (t:=id) h8 rfl
   have hE8:Ext w w8:=(hE7).more hU8 fun b hb h=>by have:=Own.above (ho7) h;omega
   have hz8:=hE8.size
   obtain ⟨oa8,oc8,rfl,_⟩:=Own.shape ho8
   repeat (first|simp (disch:=(first|omega|(simp only [qI,qJ,qK]<;>omega)|exact qL _)) only [go_sem,↓reduceIte,n0,reduceCtorEq,n1,n2,n3,n4,n5,i0,i1,i2,i3,i4,i5,i6,i7,ew]|refine qA rfl ?_|apply qB|refine qC rfl ?_|apply qD|apply qE|apply qF|apply qG|apply qH)
   have ho8':OwnBy 5 w.heap.size w8 (.slice oa8 (s5++fixedS (id.length:Int) 2++id).length oc8) (s5++(fixedS (id.length:Int) 2++id)):=by rw [← List.append_assoc];exact ho8
   exact ⟨(by simp (disch:=(first|omega|(simp only [qI,qJ,qK]<;>omega)|exact qL _)) only [go_sem,↓reduceIte,n0,reduceCtorEq,n1,n2,n3,n4,n5,i0,i1,i2,i3,i4,i5,i6,i7,Holds_nil,Holds_cons]),_,(by simp (disch:=(first|omega|(simp only [qI,qJ,qK]<;>omega)|exact qL _)) only [go_sem,↓reduceIte,n0,reduceCtorEq,n1,n2,n3,n4,n5,i0,i1,i2,i3,i4,i5,i6,i7]),ho8',hE8⟩
 rintro ρ w9 ⟨⟨h5r,h6r,-⟩,v9,h15,ho9,hE9⟩
 try simp (disch:=(first|omega|(simp only [qI,qJ,qK]<;>omega)|exact qL _)) only [go_sem,↓reduceIte,n0,reduceCtorEq,n1,n2,n3,n4,n5,i0,i1,i2,i3,i4,i5,i6,i7]
 have hl9:(s5++if (!has)=true then fixedS (-1) 2 else fixedS id.length 2++id).length≤32777:=by rw [List.length_append,hl5];split<;>simp only [List.length_append,fixedS_len]<;>omega
 generalize hs9:(s5++if (!has)=true then fixedS (-1) 2 else fixedS id.length 2++id)=s9 at *
 have hz9:=hE9.size
 obtain ⟨oa9,oc9,rfl,_⟩:=Own.shape ho9
 repeat ((first|refine W.seqR rfl ?_|refine W.seq ?_|refine W.regR rfl ?_|refine W.block ?_|refine W.skip ?_|refine W.ret ?_|refine W.exit ?_);try simp (disch:=(first|omega|(simp only [qI,qJ,qK]<;>omega)|exact qL _)) only [go_sem,↓reduceIte,n0,reduceCtorEq,n1,n2,n3,n4,n5,i0,i1,i2,i3,i4,i5,i6,i7,h5r])
 repeat refine W.seq ?_
 refine W.normJ (RowQ [(6,.slice ab body.length cb)] 15 (fun v w'=>OwnBy 5 w.heap.size w' v (s9++if flex=true then [0] else [])∧Ext w w')) ?_ ?_
 ·skip
  cases flex with
  | false =>
   repeat ((first|refine qA rfl ?_|apply qB|refine qC rfl ?_|apply qD|apply qE|apply qF|apply qG|apply qH);try simp (disch:=(first|omega|(simp only [qI,qJ,qK]<;>omega)|exact qL _)) only [go_sem,↓reduceIte,n0,reduceCtorEq,n1,n2,n3,n4,n5,i0,i1,i2,i3,i4,i5,i6,i7,h5r])
   have ho9':OwnBy 5 w.heap.size w9 (.slice oa9 s9.length oc9) (s9++if false=true then [0] else []):=by simpa using ho9
   exact ⟨(by simp (disch:=(first|omega|(simp only [qI,qJ,qK]<;>omega)|exact qL _)) only [go_sem,↓reduceIte,n0,reduceCtorEq,n1,n2,n3,n4,n5,i0,i1,i2,i3,i4,i5,i6,i7,Holds_nil,Holds_cons,h6r]),_,(by simp (disch:=(first|omega|(simp only [qI,qJ,qK]<;>omega)|exact qL _)) only [go_sem,↓reduceIte,n0,reduceCtorEq,n1,n2,n3,n4,n5,i0,i1,i2,i3,i4,i5,i6,i7,h15];all_goals rfl),ho9',hE9⟩
  | true =>
   repeat ((first|refine qA rfl ?_|apply qB|refine qC rfl ?_|apply qD|apply qE|apply qF|apply qG|apply qH);try simp (disch:=(first|omega|(simp only [qI,qJ,qK]<;>omega)|exact qL _)) only [go_sem,↓reduceIte,n0,reduceCtorEq,n1,n2,n3,n4,n5,i0,i1,i2,i3,i4,i5,i6,i7,h5r,h15])
   try simp only [List.cons_append,List.nil_append,List.append_nil]
   have hxA:Ext w9 (w9.alloc (.cells #[.int .u8 0] 5)):=Upd.alloc (Upd.refl _ _) _
   have hEA:=hE9.trans hxA
   have hsA:Src (w9.alloc (.cells #[.int .u8 0] 5)) 1 (.slice (some ⟨w9.heap.size,0,none⟩) 1 1) 1 (([0]:List UInt8).map byteV):=Src.blk (fr:=(0,0)) (T:=5) (blk_alloc_new rfl) rfl rfl
   have hoA:=ho9.alloc (.cells #[.int .u8 0] 5)
   generalize (w9.alloc (.cells #[.int .u8 0] 5))=wA at *
   refine wp_append ap_24_24 (B:=w.heap.size) (n:=(s9).length) (cs:=(s9).map byteV) (m:=([0]).length) (news:=([0]).map byteV) (v:=.slice oa9 (s9).length oc9) (u:=.slice (some ⟨w9.heap.size,0,none⟩) 1 1) (by first|rfl|simp (disch:=(first|omega|(simp only [qI,qJ,qK]<;>omega)|exact qL _)) only [go_sem,↓reduceIte,n0,reduceCtorEq,n1,n2,n3,n4,n5,i0,i1,i2,i3,i4,i5,i6,i7]) (by first|rfl|simp (disch:=(first|omega|(simp only [qI,qJ,qK]<;>omega)|exact qL _)) only [go_sem,↓reduceIte,n0,reduceCtorEq,n1,n2,n3,n4,n5,i0,i1,i2,i3,i4,i5,i6,i7]) (hoA) (flat_bytes _) (hsA) (by have:=(hEA).size;omega) (by first|omega|(simp only [List.length_append,fixedS_len,List.length_cons,List.length_nil];omega)) ?_
   intro v10 w10 h10 hU10 hfr10
   have ho10:OwnBy 5 w.heap.size w10 v10 ((s9)++([0])):=OwnBy.app (s:=s9) (t:=[0]) h10 rfl
   have hE10:Ext w w10:=(hEA).more hU10 fun b hb h=>by have:=Own.above (hoA) h;omega
   have hz10:=hE10.size
   obtain ⟨oa10,oc10,rfl,_⟩:=Own.shape ho10
   try simp (disch:=(first|omega|(simp only [qI,qJ,qK]<;>omega)|exact qL _)) only [go_sem,↓reduceIte,n0,reduceCtorEq,n1,n2,n3,n4,n5,i0,i1,i2,i3,i4,i5,i6,i7,ew]
   repeat ((first|refine qA rfl ?_|apply qB|refine qC rfl ?_|apply qD|apply qE|apply qF|apply qG|apply qH);try simp (disch:=(first|omega|(simp only [qI,qJ,qK]<;>omega)|exact qL _)) only [go_sem,↓reduceIte,n0,reduceCtorEq,n1,n2,n3,n4,n5,i0,i1,i2,i3,i4,i5,i6,i7])
   exact ⟨(by simp (disch:=(first|omega|(simp only [qI,qJ,qK]<;>omega)|exact qL _)) only [go_sem,↓reduceIte,n0,reduceCtorEq,n1,n2,n3,n4,n5,i0,i1,i2,i3,i4,i5,i6,i7,Holds_nil,Holds_cons,h6r]),_,(by simp (disch:=(first|omega|(simp only [qI,qJ,qK]<;>omega)|exact qL _)) only [go_sem,↓reduceIte,n0,reduceCtorEq,n1,n2,n3,n4,n5,i0,i1,i2,i3,i4,i5,i6,i7]),ho10,hE10⟩
 clear h15 h6r h5r ho9
 rintro ρ w11 ⟨⟨h6r,-⟩,v11,h15,ho11,hE11⟩
 try simp (disch:=(first|omega|(simp only [qI,qJ,qK]<;>omega)|exact qL _)) only [go_sem,↓reduceIte,n0,reduceCtorEq,n1,n2,n3,n4,n5,i0,i1,i2,i3,i4,i5,i6,i7]
 have hl11:(s9++if flex=true then [0] else []).length≤32778:=by rw [List.length_append];split<;>simp only [List.length_cons,List.length_nil]<;>omega
 generalize hs11:(s9++if flex=true then [0] else [])=s11 at *
 have hz11:=hE11.size
 obtain ⟨oa11,oc11,rfl,_⟩:=Own.shape ho11
 repeat ((first|refine qA rfl ?_|apply qB|refine qC rfl ?_|apply qD|apply qE|apply qF|apply qG|apply qH);try simp (disch:=(first|omega|(simp only [qI,qJ,qK]<;>omega)|exact qL _)) only [go_sem,↓reduceIte,n0,reduceCtorEq,n1,n2,n3,n4,n5,i0,i1,i2,i3,i4,i5,i6,i7,h15,h6r])
 refine wp_append ap_24_24 (B:=w.heap.size) (n:=(s11).length) (cs:=(s11).map byteV) (m:=(body).length) (news:=(body).map byteV) (v:=.slice oa11 (s11).length oc11) (u:=.slice ab body.length cb) (by first|rfl|simp (disch:=(first|omega|(simp only [qI,qJ,qK]<;>omega)|exact qL _)) only [go_sem,↓reduceIte,n0,reduceCtorEq,n1,n2,n3,n4,n5,i0,i1,i2,i3,i4,i5,i6,i7]) (by first|rfl|simp (disch:=(first|omega|(simp only [qI,qJ,qK]<;>omega)|exact qL _)) only [go_sem,↓reduceIte,n0,reduceCtorEq,n1,n2,n3,n4,n5,i0,i1,i2,i3,i4,i5,i6,i7]) (ho11) (flat_bytes _) (((hb.keep (Ext.keeps hE11 _)).src)) (by have:=(hE11).size;omega) (by first|omega|(simp only [List.length_append,fixedS_len,List.length_cons,List.length_nil];omega)) ?_
 intro v12 w12 h12 hU12 hfr12
 have ho12:OwnBy 5 w.heap.size w12 v12 ((s11)++(body)):=OwnBy.app (s:=s11) (t:=body) h12 rfl
 have hE12:Ext w w12:=(hE11).more hU12 fun b hb h=>by have:=Own.above (ho11) h;omega
 have hz12:=hE12.size
 obtain ⟨oa12,oc12,rfl,_⟩:=Own.shape ho12
 try simp (disch:=(first|omega|(simp only [qI,qJ,qK]<;>omega)|exact qL _)) only [go_sem,↓reduceIte,n0,reduceCtorEq,n1,n2,n3,n4,n5,i0,i1,i2,i3,i4,i5,i6,i7,ew]
 repeat ((first|refine qA rfl ?_|apply qB|refine qC rfl ?_|apply qD|apply qE|apply qF|apply qG|apply qH);try simp (disch:=(first|omega|(simp only [qI,qJ,qK]<;>omega)|exact qL _)) only [go_sem,↓reduceIte,n0,reduceCtorEq,n1,n2,n3,n4,n5,i0,i1,i2,i3,i4,i5,i6,i7])
 have hl12:(s11++body).length≤2 ^ 41:=by rw [List.length_append];omega
 generalize hs12:s11++body=s12 at *
 refine (Fixed_fn ((s12.length:Int)) 4 (by omega) w12).mono ?_
 rintro v13 w13 ⟨hf13,hx13⟩
 obtain ⟨oa13,oc13,rfl,_⟩:=Own.shape hf13
 have hE13:Ext w w13:=(hE12).trans hx13
 have hz13:=hE13.size
 try simp (disch:=(first|omega|(simp only [qI,qJ,qK]<;>omega)|exact qL _)) only [go_sem,↓reduceIte,n0,reduceCtorEq,n1,n2,n3,n4,n5,i0,i1,i2,i3,i4,i5,i6,i7,ew]
 have hv12:=(Own.bytes (ok:=AnyB) ho12 fun _ _=>trivial).keep (Ext.keeps hx13 _)
 refine wp_append ap_24_24 (B:=w.heap.size) (n:=(fixedS (s12.length:Int) 4).length) (cs:=(fixedS (s12.length:Int) 4).map byteV) (m:=(s12).length) (news:=(s12).map byteV) (v:=.slice oa13 (fixedS (s12.length:Int) 4).length oc13) (u:=.slice oa12 (s12).length oc12) (by first|rfl|simp (disch:=(first|omega|(simp only [qI,qJ,qK]<;>omega)|exact qL _)) only [go_sem,↓reduceIte,n0,reduceCtorEq,n1,n2,n3,n4,n5,i0,i1,i2,i3,i4,i5,i6,i7]) (by first|rfl|simp (disch:=(first|omega|(simp only [qI,qJ,qK]<;>omega)|exact qL _)) only [go_sem,↓reduceIte,n0,reduceCtorEq,n1,n2,n3,n4,n5,i0,i1,i2,i3,i4,i5,i6,i7]) ((Own.mono hf13 hz12)) (flat_bytes _) (hv12.src) (by have:=(hE13).size;omega) (by first|omega|(simp only [List.length_append,fixedS_len,List.length_cons,List.length_nil];omega)) ?_
 intro v14 w14 h14 hU14 hfr14
 have ho14:OwnBy 5 w.heap.size w14 v14 ((fixedS (s12.length:Int) 4)++(s12)):=OwnBy.app (s:=fixedS (s12.length:Int) 4) (t:=s12) h14 rfl
 have hE14:Ext w w14:=(hE13).more hU14 fun b hb h=>by have:=Own.above ((Own.mono hf13 hz12)) h;omega
 have hz14:=hE14.size
 obtain ⟨oa14,oc14,rfl,_⟩:=Own.shape ho14
 try simp (disch:=(first|omega|(simp only [qI,qJ,qK]<;>omega)|exact qL _)) only [go_sem,↓reduceIte,n0,reduceCtorEq,n1,n2,n3,n4,n5,i0,i1,i2,i3,i4,i5,i6,i7,ew]
 repeat ((first|refine qA rfl ?_|apply qB|refine qC rfl ?_|apply qD|apply qE|apply qF|apply qG|apply qH);try simp (disch:=(first|omega|(simp only [qI,qJ,qK]<;>omega)|exact qL _)) only [go_sem,↓reduceIte,n0,reduceCtorEq,n1,n2,n3,n4,n5,i0,i1,i2,i3,i4,i5,i6,i7])
 have hfin:s12=frameB key ver number (!has) id flex body:=by rw [← hs12,← hs11,← hs9,← hs5];simp only [frameB,List.append_assoc]
 refine ⟨?_,hE14⟩
 rw [show frameS key ver number (!has) id flex body=fixedS (s12.length:Int) 4++s12 by rw [hfin];rfl]
 exact ho14
end Ms

namespace Ms
open Go

def numS (k n:Int):Int:=if k=0 then n % 2 else wrapN k n
def DfF (D:List Fld→Tree→Prop) (f:Fld) (x:Tree):Prop :=
 if f.kind=8 then x.null=decide (0≤f.null)∧x.s=[]
 else if f.kind=7 then x.s=uuidS []
 else if f.kind=9∨f.kind=11 then x.s=[]∧x.l=[]
 else if f.kind=10 then (0≤f.null→x.null=true)∧(f.null < 0→D f.sub x)
 else x.n=numS f.kind f.df
def DfP : Nat→List Fld→Tree→Prop
 | 0,_,_=>False
 | d+1,fs,g=>g.u=[]∧∀ i (h:i < fs.length),DfF (DfP d) fs[i] (g.at i)
def Told1 (T:List Fld→Tree→Tree→Prop) (kind:Int) (sub:List Fld) (t g:Tree):Prop :=
 if kind=8∨kind=9 then g.s=wholeS t.s
 else if kind=7 then g.s=uuidS t.s
 else if kind=10 then T sub t g
 else g.n=numS kind t.n
def ToldF (T:List Fld→Tree→Tree→Prop) (v:Int) (f:Fld) (t g:Tree):Prop :=
 ((f.kind=8∨f.kind=10∨mayS f v=true)→g.null=nullS f v t) ∧
 (nullS f v t=false→if f.kind=11 then g.l.length=(thingsS t.l).length∧∀ i (h:i < (thingsS t.l).length),(f.of=8∨f.of=10→(g.at i).null=false)∧Told1 T f.of f.sub (thingsS t.l)[i] (g.at i)
  else Told1 T f.kind f.sub t g)
def liveS (d:Nat) (v:Int) (flex:Bool) (f:Fld) (t:Tree):Bool:=(decide (f.tag < 0) && hasS f v) || (decide (0≤f.tag) && (flex && !(usualS d f t)))
def ToldP : Nat→Int→Bool→List Fld→Tree→Tree→Prop
 | 0,_,_,_,_,_=>False
 | d+1,v,flex,fs,t,g=>g.l.length=fs.length∧g.u=(if flex=true then (unknownS fs t.u).map fun u=>(u.1,wholeS u.2) else []) ∧
  ∀ i (h:i < fs.length),if liveS (d+1) v flex fs[i] (t.at i)=true then ToldF (ToldP d v flex) v fs[i] (t.at i) (g.at i) else DfF (DfP d) fs[i] (g.at i)

/-! ### Rows in memory -/
theorem SlR.litO {α:Type} {ok:Blocks} {w:World} {size b:Nat} {fr:Nat × Nat} {T:TypeId} {R:α→List Value→Prop} {xs:List α} {css:List (List Value)} (hok:ok b) (h:blk w b=some (css.flatten.toArray,T,fr)) (hl:∀ cs∈css,cs.length=size) (ha:All2 R xs css) :
  SlR ok w size R (.slice (some ⟨b,0,none⟩) xs.length xs.length) xs:=by
 refine ⟨css,⟨some ⟨b,0,none⟩,xs.length,by rw [ha.1],by rw [ha.1];exact Nat.le_refl _,hl,.inr ⟨_,rfl,rfl,hok,_,h,fun i hi => ?_⟩⟩,ha⟩
 simp only [Nat.zero_add,List.getElem?_toArray]
theorem All2.one {α β:Type} {R:α→β→Prop} {x:α} {y:β} (h:R x y):All2 R [x] [y] :=
 ⟨rfl,fun i h1 h2=>by
  obtain rfl:i=0:=by simp at h1;exact h1
  exact h⟩
theorem FldsV.one {w:World} {b:Nat} {fr:Nat × Nat} {T:TypeId} {f:Fld} {vs:Value} (h:blk w b=some (#[.int .i64 f.kind,.int .i64 f.fr,.int .i64 f.to,.int .i64 f.null,.int .i64 f.tag,.int .i64 f.df,.int .i64 f.of,vs],T,fr)) (hs:FldsV AnyB w vs f.sub):FldsV AnyB w (.slice (some ⟨b,0,Option.none⟩) 1 1) [f] :=
 SlR.litO (css:=[[.int .i64 f.kind,.int .i64 f.fr,.int .i64 f.to,.int .i64 f.null,.int .i64 f.tag,.int .i64 f.df,.int .i64 f.of,vs]]) trivial h (fun cs hm=>by simp only [List.mem_singleton] at hm;subst hm;rfl) (All2.one (by cases f;exact FldC.intro hs))
theorem TreesV.one {w:World} {b:Nat} {fr:Nat × Nat} {T:TypeId} {x:Tree} {c0 c1 c2 c3 c4:Value} (h:blk w b=some (#[c0,c1,c2,c3,c4],T,fr)) (hx:TreeC AnyB w x [c0,c1,c2,c3,c4]):TreesV AnyB w (.slice (some ⟨b,0,Option.none⟩) 1 1) [x] :=
 SlR.litO (css:=[[c0,c1,c2,c3,c4]]) trivial h (fun cs hm=>by simp only [List.mem_singleton] at hm;subst hm;rfl) (All2.one hx)
theorem OwnE.tags {B:Nat} {w:World} {E:TypeId} {v:Value} {css:List (List Value)} {ts:List TagD} {ok:Blocks} (h:OwnE B w E 2 v css) (ha:All2 (TagC ok w) ts css):TagsV AnyB w v ts :=
 ⟨css,h.sl fun _ _=>trivial,ha.imp fun _ _ h=>h.weaken fun _ _ _=>trivial⟩
end Ms

namespace Ms
open Nat renaming reduceEqDiff → n0,reduceAdd → n1,reduceMul → n2,reduceSub → n3,reduceLT → n4,reduceLeDiff → n5
open Int renaming reduceEq → i0,reduceLT → i1,reduceLE → i2,reduceNeg → i3,reduceAdd → i4,reduceSub → i5,reduceMul → i6,reduceToNat → i7
set_option maxRecDepth 8000
set_option maxHeartbeats 24000000
open Go Go.Proofs Go.Shelf
attribute [local congr] W_congr WPsq_congr WPp_congr optK_congr addrK_congr intK_congr boolK_congr sliceK_congr tupleK_congr funcK_congr Fn_congr rawK_congr takeK_congr stepK_congr convK_congr aggK_congr

end Ms

namespace Ms
open Go.World renaming size_alloc → qI
open Ms renaming size_wr → qJ,size_drew → qK,not_noB → qL
open W renaming seqR → qA,seq → qB,regR → qC,condK → qD,block → qE,skip → qF,ret → qG,exit → qH
open Nat renaming reduceEqDiff → n0,reduceAdd → n1,reduceMul → n2,reduceSub → n3,reduceLT → n4,reduceLeDiff → n5
open Int renaming reduceEq → i0,reduceLT → i1,reduceLE → i2,reduceNeg → i3,reduceAdd → i4,reduceSub → i5,reduceMul → i6,reduceToNat → i7
set_option maxRecDepth 8000
set_option maxHeartbeats 24000000
open Go Go.Proofs Go.Shelf
attribute [local congr] W_congr WPsq_congr WPp_congr optK_congr addrK_congr intK_congr boolK_congr sliceK_congr tupleK_congr funcK_congr Fn_congr rawK_congr takeK_congr stepK_congr convK_congr aggK_congr

theorem Flexible_fn (vs:Value) (F ver:Int) (hv:flat vs=true) (w:World):Fn Tryz.prog 13 #[.agg #[vs,.int .i64 F],.int .i64 ver] w fun r w'=>r = .bool (flexB F ver)∧Ext w w':=by
 refine fn_of_W Tryz.func13 rfl Tryz.results13 Tryz.ntmps13 rfl ?_
 by_cases h1:0≤F
 ·by_cases h2:F≤ver
  ·repeat ((first|refine qA rfl ?_|apply qB|refine qC rfl ?_|apply qD|apply qE|apply qF|apply qG|apply qH);try simp (disch:=(first|omega|(simp only [qI,qJ,qK]<;>omega)|exact qL _)) only [go_sem,↓reduceIte,n0,reduceCtorEq,n1,n2,n3,n4,n5,i0,i1,i2,i3,i4,i5,i6,i7,hv,cellsAt_two])
   exact ⟨by simp [flexB,h1,h2],Upd.alloc (Upd.refl _ _) _⟩
  ·repeat ((first|refine qA rfl ?_|apply qB|refine qC rfl ?_|apply qD|apply qE|apply qF|apply qG|apply qH);try simp (disch:=(first|omega|(simp only [qI,qJ,qK]<;>omega)|exact qL _)) only [go_sem,↓reduceIte,n0,reduceCtorEq,n1,n2,n3,n4,n5,i0,i1,i2,i3,i4,i5,i6,i7,hv,cellsAt_two])
   exact ⟨by simp [flexB,h2],Upd.alloc (Upd.refl _ _) _⟩
 ·repeat ((first|refine qA rfl ?_|apply qB|refine qC rfl ?_|apply qD|apply qE|apply qF|apply qG|apply qH);try simp (disch:=(first|omega|(simp only [qI,qJ,qK]<;>omega)|exact qL _)) only [go_sem,↓reduceIte,n0,reduceCtorEq,n1,n2,n3,n4,n5,i0,i1,i2,i3,i4,i5,i6,i7,hv,cellsAt_two])
  exact ⟨by simp [flexB,h1],Upd.alloc (Upd.refl _ _) _⟩

end Ms

