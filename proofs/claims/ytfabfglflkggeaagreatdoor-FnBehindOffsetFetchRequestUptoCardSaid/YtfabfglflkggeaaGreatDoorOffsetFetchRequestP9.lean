/- A part of the proof: see the last text. -/
import Derived.Test.YtfabfglflkggeaaGreatDoorC05
import Derived.Test.YtfabfglflkggeaaGreatDoorC06
import Derived.Test.YtfabfglflkggeaaGreatDoorC07
import Derived.Test.YtfabfglflkggeaaGreatDoorC10
import Derived.Test.YtfabfglflkggeaaGreatDoorOffsetFetchRequestP0
import Derived.Test.YtfabfglflkggeaaGreatDoorOffsetFetchRequestP7
import Derived.Test.YtfabfglflkggeaaGreatDoorOffsetFetchRequestP8
set_option linter.unusedSimpArgs false
set_option linter.unusedVariables false
namespace Ms
open Go.World renaming size_alloc → qI
open Ms renaming size_wr → qJ,size_drew → qK,not_noB → qL
open W renaming seqF → qA,seq → qB,regF → qC,condK → qD,block → qE,skip → qF,ret → qG,exit → qH
open Nat renaming reduceEqDiff → n0,reduceAdd → n1,reduceMul → n2,reduceSub → n3,reduceLT → n4,reduceLeDiff → n5
open Int renaming reduceEq → i0,reduceLT → i1,reduceLE → i2,reduceNeg → i3,reduceAdd → i4,reduceSub → i5,reduceMul → i6,reduceToNat → i7
set_option maxRecDepth 8000
open Go Go.Proofs Go.Shelf
attribute [local congr] W_congr WPsq_congr WPp_congr optK_congr addrK_congr intK_congr boolK_congr sliceK_congr tupleK_congr funcK_congr Fn_congr rawK_congr takeK_congr stepK_congr convK_congr aggK_congr

set_option maxHeartbeats 4000000 in
theorem appQ_6 {d B:Nat} {okM:Blocks} {ver:Int} (hlo:10≤ver) (hhi:ver≤10) (t:Tree) (cells:List Value) (v:Value) (s:List UInt8) (w:World) {vb:Nat} (ho:OwnBy 5 B w v s) (hB:B≤w.heap.size) (hvb:blk w vb=some ((.int .i16 ver :: cells).toArray,63,(0,0)))
  (hR:RepS true (d+3) fsr_Q okM w t cells) (hfit:FitW ver (d+3) fsr_Q t) (hd:∀ b,b < w.heap.size→okM b→¬ ownB v b) (hdv:¬ ownB v vb) (hlen:s.length+(partS (d+3) fsr_Q ver true t).length≤2 ^ 41) :
  Fn Tryz.prog 19 #[.pointer (some ⟨vb,0,none⟩),v] w fun r w'=>AppR 5 B w v s (partS (d+3) fsr_Q ver true t) r w':=by
 obtain ⟨⟨g_0,g_1,g_2,g_3,-⟩,hfu⟩:=hfit
 replace g_0:hasS fQ_0 ver=true→FitWF (FitW ver (d+2)) ver fQ_0 (t.at 0):=g_0
 have hh_0:hasS fQ_0 ver=false:=hasS_f (by show ver < 0∨(0≤(7:Int)∧(7:Int) < ver);omega)
 clear g_0
 replace g_1:hasS fQ_1 ver=true→FitWF (FitW ver (d+2)) ver fQ_1 (t.at 1):=g_1
 have hh_1:hasS fQ_1 ver=false:=hasS_f (by show ver < 0∨(0≤(7:Int)∧(7:Int) < ver);omega)
 clear g_1
 replace g_2:hasS frQ_2 ver=true→FitWF (FitW ver (d+2)) ver frQ_2 (t.at 2):=g_2
 have hh_2:hasS frQ_2 ver=true:=hasS_t (by show (8:Int)≤ver;omega) (by show (-1:Int) < 0∨ver≤(-1:Int);omega)
 replace g_2:=g_2 hh_2
 replace g_3:hasS fQ_3 ver=true→FitWF (FitW ver (d+2)) ver fQ_3 (t.at 3):=g_3
 have hh_3:hasS fQ_3 ver=true:=hasS_t (by show (7:Int)≤ver;omega) (by show (-1:Int) < 0∨ver≤(-1:Int);omega)
 replace g_3:=g_3 hh_3
 obtain ⟨cs,q,hcs,hL,hT⟩:=hR.inv
 obtain ⟨c_0,e_0,rfl,h_0,c_1,e_1,rfl,h_1,c_2,e_2,rfl,h_2,c_3,e_3,rfl,h_3,rfl⟩:=hL
 replace h_0:RepF (RepS true (d+2)) (szS true (d+2)) fQ_0 okM w (t.at 0) c_0:=h_0
 replace h_1:RepF (RepS true (d+2)) (szS true (d+2)) fQ_1 okM w (t.at 1) c_1:=h_1
 replace h_2:RepF (RepS true (d+2)) (szS true (d+2)) frQ_2 okM w (t.at 2) c_2:=h_2
 replace h_3:RepF (RepS true (d+2)) (szS true (d+2)) fQ_3 okM w (t.at 3) c_3:=h_3
 obtain rfl:=(RepF_text rfl (by decide)).1 h_0
 obtain ⟨p_1,rfl⟩:=RepF_any (by decide) h_1
 obtain ⟨p_2,rfl,hs_2⟩:=RepF_listW g_2 rfl (by decide) h_2
 obtain ⟨ab_2,ac_2,rfl,_⟩:=SlR.shape hs_2
 have hgl_2:=g_2.list rfl
 have hll_2:=hgl_2.1
 obtain rfl:=(RepF_num (by decide)).1 h_3
 obtain ⟨qm,rfl⟩:=hT.shape
 have hv:blk w vb=some (#[.int .i16 ver,strV (t.at 0).s,p_1,.slice ab_2 (t.at 2).l.length ac_2,.bool (decide ((t.at 3).n % 2=1)),.map qm],63,(0,0)):=by rw [hvb,hcs];rfl
 clear hvb hcs
 obtain ⟨XL_2,hXL_2⟩:∃ X,X=uvarS ((t.at 2).l.length+1):=⟨_,rfl⟩
 obtain ⟨XE_2,hXE_2⟩:∃ X,X=(t.at 2).l.flatMap (fun x=>partS (d+2) fsr_X1 ver true x):=⟨_,rfl⟩
 obtain ⟨X_3,hXX_3⟩:∃ X,X=[if decide ((t.at 3).n % 2=1)=true then (1:UInt8) else 0]:=⟨_,rfl⟩
 obtain ⟨XU,hXU⟩:∃ X,X=uvarS t.u.length:=⟨_,rfl⟩
 obtain ⟨XT,hXT⟩:∃ X,X=t.u.flatMap oneTag:=⟨_,rfl⟩
 have hP:partS (d+3) fsr_Q ver true t=((XL_2++XE_2)++(X_3++[]))++(XU++XT):=by rw [hXU,hXT];exact partS_yes rfl hfu (plainL_not hh_0 (plainL_not hh_1 (plainL_has (by decide) hh_2 ((fieldS_list_t (g:=(fun x=>partS (d+2) fsr_X1 ver true x)) g_2 rfl (by decide) (fun x _=>valueS_part)).trans (by rw [hXL_2,hXE_2])) (plainL_has (by decide) hh_3 ((fieldS_bool rfl).trans hXX_3.symm) rfl))))
 rw [hP] at hlen
 simp only [List.length_append,List.length_nil] at hlen
 have hdK:∀ {r:Value} {w':World} {add:List UInt8},AppR 5 B w v s add r w'→∀ b,b < w'.heap.size→OkS okM w.heap.size b→¬ ownB r b:=fun h b _ hk ho=>(h.frame b ho).elim (hd b hk.2 hk.1) (fun h=>by have:=hk.2;omega)
 have ownK:∀ {r:Value} {w':World} {add:List UInt8} {b:Nat},AppR 5 B w v s add r w'→b < w.heap.size→¬ ownB v b→¬ ownB r b:=fun h hb hn ho=>(h.frame _ ho).elim hn (fun h=>by omega)
 have ha0:AppR 5 B w v s [] v w:=AppR.refl ho
 obtain ⟨w0,hw0⟩:∃ w0,w0=w:=⟨_,rfl⟩
 have hB0:=hB
 have hv_0:=hv
 refine fn_of_W Tryz.func19 rfl Tryz.results19 Tryz.ntmps19 rfl ?_
 repeat ((first|refine qA ?_|apply qB|refine qC ?_|apply qD|apply qE|apply qF|apply qG|apply qH);try simp (disch:=omega) only [go_sem,↓reduceIte,n0,reduceCtorEq,hv_0])
 refine (AppendCompactArrayLen_fn _ _ _ ha0.own hB0 (t.at 2).l.length hll_2 (by simp only [List.length_append,List.length_nil];omega)).mono ?_
 rintro r1 w1 hc1
 rw [← hXL_2] at hc1
 have ha1:=ha0.trans hc1
 have hB1:B≤w1.heap.size:=Nat.le_trans hB ha1.upd.size
 have hv_1:=ha1.upd.blk_some hv hdv
 repeat ((first|refine qA ?_|apply qB|refine qC ?_|apply qD|apply qE|apply qF|apply qG|apply qH);try simp (disch:=omega) only [go_sem,↓reduceIte,n0,reduceCtorEq,hv_1])
 have z1:=ha1
 refine W.exitJ 4 (fun ρ w'=>∃ r,ρ 1=r∧ρ 0 = .pointer (some ⟨vb,0,none⟩)∧ρ 5 = .int .i16 ver∧ρ 6 = .bool true∧AppR 5 B w v s (([]++XL_2)++XE_2) r w')
  (W.loop (fun ρ w'=>∃ (j:Nat) (r:Value),j≤(t.at 2).l.length∧ρ 166 = .int .i64 j∧ρ 165 = .int .i64 (t.at 2).l.length∧ρ 15 = .slice ab_2 (t.at 2).l.length ac_2∧ρ 1=r∧ρ 0 = .pointer (some ⟨vb,0,none⟩)∧ρ 5 = .int .i16 ver∧ρ 6 = .bool true∧AppR 5 B w v s (([]++XL_2)++((t.at 2).l.take j).flatMap (fun x=>partS (d+2) fsr_X1 ver true x)) r w')
   (fun ρ _=>(t.at 2).l.length - (RowKit.intOf (ρ 166)).toNat) ?_ ?_) ?_
 ·refine ⟨0,_,Nat.zero_le _,?_,?_,?_,?_,?_,?_,?_,ha1.eqs (by rw [List.take_zero,List.flatMap_nil,List.append_nil])⟩<;>simp (disch:=omega) only [go_sem,↓reduceIte,n0,reduceCtorEq]
  all_goals rfl
 ·rintro ρ w2 ⟨j1,r2,hj1,hI1,hN1,hS1,eH,eG,dJ,dI,ha2⟩
  have hB2:B≤w2.heap.size:=Nat.le_trans hB ha2.upd.size
  have hv_2:=ha2.upd.blk_some hv hdv
  by_cases eJ:j1 < (t.at 2).l.length
  ·obtain ⟨_,b1,o1,x1,ce1,hb1,hok1,hx1,pE,zG,zE,hq1,iF⟩:=SlR.get (size:=5) (by decide) hs_2 eJ
   subst hb1
   have lG:(t.at 2).l.take (j1+1)=(t.at 2).l.take j1++[(t.at 2).l[j1]]:=List.take_succ_eq_append_getElem eJ
   have fI:=take_flatMap_len (t.at 2).l (fun x=>partS (d+2) fsr_X1 ver true x) (j1+1)
   rw [← hXE_2,lG,List.flatMap_append,List.flatMap_cons,List.flatMap_nil,List.append_nil] at fI
   have pI:=hgl_2.2 _ (List.getElem_mem eJ)
   generalize (t.at 2).l[j1] = y1 at *
   have cJ:=hd b1 pE hok1
   obtain ⟨T1,l8⟩:∃ T,T=((t.at 2).l.take j1).flatMap (fun x=>partS (d+2) fsr_X1 ver true x):=⟨_,rfl⟩
   rw [← l8] at ha2 fI
   have CG:=ha2.upd.blk_some hx1 cJ
   replace iF:RepS true (d+2) fsr_X1 okM w y1 ce1:=Rep1_part.1 iF
   have pH:FitW ver (d+2) fsr_X1 y1:=pI.2 rfl
   obtain ⟨⟨ge1_0,ge1_1,ge1_2,ge1_3,-⟩,fT⟩:=pH
   replace ge1_0:hasS fX1_0 ver=true→FitWF (FitW ver (d+1)) ver fX1_0 (y1.at 0):=ge1_0
   have lI:hasS fX1_0 ver=true:=hasS_t (by show (0:Int)≤ver;omega) (by show (-1:Int) < 0∨ver≤(-1:Int);omega)
   replace ge1_0:=ge1_0 lI
   replace ge1_1:hasS fX1_1 ver=true→FitWF (FitW ver (d+1)) ver fX1_1 (y1.at 1):=ge1_1
   have lO:hasS fX1_1 ver=true:=hasS_t (by show (9:Int)≤ver;omega) (by show (-1:Int) < 0∨ver≤(-1:Int);omega)
   replace ge1_1:=ge1_1 lO
   replace ge1_2:hasS fX1_2 ver=true→FitWF (FitW ver (d+1)) ver fX1_2 (y1.at 2):=ge1_2
   have xN:hasS fX1_2 ver=true:=hasS_t (by show (9:Int)≤ver;omega) (by show (-1:Int) < 0∨ver≤(-1:Int);omega)
   replace ge1_2:=ge1_2 xN
   replace ge1_3:hasS frX1_3 ver=true→FitWF (FitW ver (d+1)) ver frX1_3 (y1.at 3):=ge1_3
   have vI:hasS frX1_3 ver=true:=hasS_t (by show (0:Int)≤ver;omega) (by show (-1:Int) < 0∨ver≤(-1:Int);omega)
   replace ge1_3:=ge1_3 vI
   obtain ⟨cse1,qe1,pG,oZ,jS⟩:=iF.inv
   obtain ⟨ce1_0,ee1_0,rfl,iG,ce1_1,ee1_1,rfl,iH,ce1_2,ee1_2,rfl,rD,ce1_3,ee1_3,rfl,rE,rfl⟩:=oZ
   replace iG:RepF (RepS true (d+1)) (szS true (d+1)) fX1_0 okM w (y1.at 0) ce1_0:=iG
   replace iH:RepF (RepS true (d+1)) (szS true (d+1)) fX1_1 okM w (y1.at 1) ce1_1:=iH
   replace rD:RepF (RepS true (d+1)) (szS true (d+1)) fX1_2 okM w (y1.at 2) ce1_2:=rD
   replace rE:RepF (RepS true (d+1)) (szS true (d+1)) frX1_3 okM w (y1.at 3) ce1_3:=rE
   obtain rfl:=(RepF_text rfl (by decide)).1 iG
   obtain ⟨pe1_1,rfl,DL⟩:=(RepF_ptr rfl (by decide)).1 iH
   obtain rfl:=(RepF_num (by decide)).1 rD
   obtain ⟨pe1_3,Le1_3,rfl,uD,wC,BU⟩:=RepF_listN ge1_3 rfl (by decide) rE
   obtain ⟨abe1_3,ace1_3,rfl,_⟩:=SlR.shape wC
   have eE:=BU _ _ _ rfl
   have vG:=ge1_3.listL rfl uD
   have BR:=vG.1
   obtain ⟨qme1,rfl⟩:=jS.shape
   subst pG
   have cO:x1.1[o1+j1 * 5]? = some (strV (y1.at 0).s):=hq1 0 (by decide)
   have cP:x1.1[o1+(j1 * 5+1)]? = some (pe1_1):=hq1 1 (by decide)
   have cM:x1.1[o1+(j1 * 5+2)]? = some (.int .i32 (IntKind.i32.wrap (y1.at 2).n)):=hq1 2 (by decide)
   have eF:x1.1[o1+(j1 * 5+3)]? = some (.slice abe1_3 Le1_3.length ace1_3):=hq1 3 (by decide)
   have dN:x1.1[o1+(j1 * 5+4)]? = some (.map qme1):=hq1 4 (by decide)
   obtain ⟨Xe1_0,lE⟩:∃ X,X=uvarS ((y1.at 0).s.length+1)++(y1.at 0).s:=⟨_,rfl⟩
   obtain ⟨Xe1_1,AJ⟩:∃ X,X=if (y1.at 1).null=true then [0] else uvarS ((y1.at 1).s.length+1)++(y1.at 1).s:=⟨_,rfl⟩
   obtain ⟨Xe1_2,AK⟩:∃ X,X=fixedS (y1.at 2).n 4:=⟨_,rfl⟩
   obtain ⟨XLe1_3,uV⟩:∃ X,X=countedS true (nullS frX1_3 ver (y1.at 3)) Le1_3.length 4:=⟨_,rfl⟩
   obtain ⟨XEe1_3,qY⟩:∃ X,X=Le1_3.flatMap (fun x=>partS (d+1) fs_X0 ver true x):=⟨_,rfl⟩
   obtain ⟨XUe1,o9⟩:∃ X,X=uvarS y1.u.length:=⟨_,rfl⟩
   obtain ⟨XTe1,o8⟩:∃ X,X=y1.u.flatMap oneTag:=⟨_,rfl⟩
   have l7:partS (d+2) fsr_X1 ver true y1=(Xe1_0++(Xe1_1++(Xe1_2++((XLe1_3++XEe1_3)++[]))))++(XUe1++XTe1):=by rw [o9,o8];exact partS_yes rfl fT (plainL_has (by decide) lI ((fieldS_text_t ge1_0 rfl (by decide)).trans lE.symm) (plainL_has (by decide) lO ((fieldS_ptr_t ge1_1 rfl (by decide)).trans AJ.symm) (plainL_has (by decide) xN ((fieldS_num 3 rfl (by decide)).trans AK.symm) (plainL_has (by decide) vI ((fieldS_listN (g:=(fun x=>partS (d+1) fs_X0 ver true x)) ge1_3 rfl uD (fun x _=>valueS_part)).trans (by rw [uV,qY])) rfl))))
   rw [l7] at fI
   simp only [List.length_append,List.length_nil] at fI
   repeat ((first|refine qA ?_|apply qB|refine qC ?_|apply qD|apply qE|apply qF|apply qG|apply qH);try simp (disch:=omega) only [go_sem,↓reduceIte,n0,reduceCtorEq,hv_2,CG,cO,cP,cM,eF,dN,eE,eH,eG,dJ,dI,hI1,hN1,hS1])
   refine (AppendCompactString_fn _ _ _ ha2.own hB2 (y1.at 0).s (ge1_0.text (.inl rfl)) (by simp only [List.length_append,List.length_nil];omega)).mono ?_
   rintro r3 w3 hc3
   rw [← lE] at hc3
   have ha3:=ha2.trans hc3
   have hB3:B≤w3.heap.size:=Nat.le_trans hB ha3.upd.size
   have hv_3:=ha3.upd.blk_some hv hdv
   have pT:=ha3.upd.blk_some hx1 cJ
   repeat ((first|refine qA ?_|apply qB|refine qC ?_|apply qD|apply qE|apply qF|apply qG|apply qH);try simp (disch:=omega) only [go_sem,↓reduceIte,n0,reduceCtorEq,hv_3,pT,cO,cP,cM,eF,dN,eE,eH,eG,dJ,dI,hI1,hN1,hS1])
   refine (AppendCompactNullableString_fn (ok:=okM) _ _ _ ha3.own hB3 _ (y1.at 1).null (y1.at 1).s (DL.keep (ha3.upd.keeps hd)) (ge1_1.text (.inl rfl)) (by simp only [List.length_append,List.length_nil];omega)).mono ?_
   rintro r4 w4 hc4
   rw [← AJ] at hc4
   have ha4:=ha3.trans hc4
   have hB4:B≤w4.heap.size:=Nat.le_trans hB ha4.upd.size
   have hv_4:=ha4.upd.blk_some hv hdv
   have iD:=ha4.upd.blk_some hx1 cJ
   repeat ((first|refine qA ?_|apply qB|refine qC ?_|apply qD|apply qE|apply qF|apply qG|apply qH);try simp (disch:=omega) only [go_sem,↓reduceIte,n0,reduceCtorEq,hv_4,iD,cO,cP,cM,eF,dN,eE,eH,eG,dJ,dI,hI1,hN1,hS1])
   refine (AppendInt32_fn _ _ _ ha4.own hB4 _ (by simp only [List.length_append,List.length_nil];omega)).mono ?_
   rintro r5 w5 hc5
   rw [wrap32,← AK] at hc5
   have ha5:=ha4.trans hc5
   have hB5:B≤w5.heap.size:=Nat.le_trans hB ha5.upd.size
   have hv_5:=ha5.upd.blk_some hv hdv
   have kU:=ha5.upd.blk_some hx1 cJ
   repeat ((first|refine qA ?_|apply qB|refine qC ?_|apply qD|apply qE|apply qF|apply qG|apply qH);try simp (disch:=omega) only [go_sem,↓reduceIte,n0,reduceCtorEq,hv_5,kU,cO,cP,cM,eF,dN,eE,eH,eG,dJ,dI,hI1,hN1,hS1])
   refine (AppendCompactNullableArrayLen_fn _ _ _ ha5.own hB5 Le1_3.length BR (nullS frX1_3 ver (y1.at 3)) (by simp only [List.length_append,List.length_nil];omega)).mono ?_
   rintro r6 w6 hc6
   rw [← uV] at hc6
   have ha6:=ha5.trans hc6
   have hB6:B≤w6.heap.size:=Nat.le_trans hB ha6.upd.size
   have hv_6:=ha6.upd.blk_some hv hdv
   have kV:=ha6.upd.blk_some hx1 cJ
   repeat ((first|refine qA ?_|apply qB|refine qC ?_|apply qD|apply qE|apply qF|apply qG|apply qH);try simp (disch:=omega) only [go_sem,↓reduceIte,n0,reduceCtorEq,hv_6,kV,cO,cP,cM,eF,dN,eE,eH,eG,dJ,dI,hI1,hN1,hS1])
   have z2:=ha6
   refine W.exitJ 6 (fun ρ w'=>∃ r,ρ 1=r∧ρ 0 = .pointer (some ⟨vb,0,none⟩)∧ρ 5 = .int .i16 ver∧ρ 6 = .bool true∧ρ 166 = .int .i64 j1∧ρ 165 = .int .i64 (t.at 2).l.length∧ρ 15 = .slice (some ⟨b1,o1,none⟩) (t.at 2).l.length ac_2∧ρ 17 = .pointer (some ⟨b1,o1+j1 * 5,none⟩)∧AppR 5 B w v s (([]++XL_2++T1++Xe1_0++Xe1_1++Xe1_2++XLe1_3)++XEe1_3) r w')
    (W.loop (fun ρ w'=>∃ (j:Nat) (r:Value),j≤Le1_3.length∧ρ 224 = .int .i64 j∧ρ 223 = .int .i64 Le1_3.length∧ρ 21 = .slice abe1_3 Le1_3.length ace1_3∧ρ 1=r∧ρ 0 = .pointer (some ⟨vb,0,none⟩)∧ρ 5 = .int .i16 ver∧ρ 6 = .bool true∧ρ 166 = .int .i64 j1∧ρ 165 = .int .i64 (t.at 2).l.length∧ρ 15 = .slice (some ⟨b1,o1,none⟩) (t.at 2).l.length ac_2∧ρ 17 = .pointer (some ⟨b1,o1+j1 * 5,none⟩)∧AppR 5 B w v s (([]++XL_2++T1++Xe1_0++Xe1_1++Xe1_2++XLe1_3)++(Le1_3.take j).flatMap (fun x=>partS (d+1) fs_X0 ver true x)) r w')
     (fun ρ _=>Le1_3.length - (RowKit.intOf (ρ 224)).toNat) ?_ ?_) ?_
   ·refine ⟨0,_,Nat.zero_le _,?_,?_,?_,?_,?_,?_,?_,?_,?_,?_,?_,ha6.eqs (by rw [List.take_zero,List.flatMap_nil,List.append_nil])⟩<;>simp (disch:=omega) only [go_sem,↓reduceIte,n0,reduceCtorEq,eH,eG,dJ,dI,hI1,hN1,hS1]
    all_goals rfl
   ·rintro ρ w7 ⟨j2,r7,hj2,hI2,hN2,hS2,fN,fO,fP,fQ,mI,mH,mG,mJ,ha7⟩
    have hB7:B≤w7.heap.size:=Nat.le_trans hB ha7.upd.size
    have hv_7:=ha7.upd.blk_some hv hdv
    have eY:=ha7.upd.blk_some hx1 cJ
    by_cases hlt2:j2 < Le1_3.length
    ·obtain ⟨_,b2,o2,x2,ce2,hb2,hok2,hx2,pF,zH,zF,hq2,jM⟩:=SlR.get (size:=19) (by decide) wC hlt2
     subst hb2
     have lH:Le1_3.take (j2+1)=Le1_3.take j2++[Le1_3[j2]]:=List.take_succ_eq_append_getElem hlt2
     have eX:=take_flatMap_len Le1_3 (fun x=>partS (d+1) fs_X0 ver true x) (j2+1)
     rw [← qY,lH,List.flatMap_append,List.flatMap_cons,List.flatMap_nil,List.append_nil] at eX
     have tW:=vG.2 _ (List.getElem_mem hlt2)
     generalize Le1_3[j2] = y2 at *
     have eI:=hd b2 pF hok2
     obtain ⟨T2,l9⟩:∃ T,T=(Le1_3.take j2).flatMap (fun x=>partS (d+1) fs_X0 ver true x):=⟨_,rfl⟩
     rw [← l9] at ha7 eX
     have u6:=ha7.upd.blk_some hx2 eI
     replace jM:RepS true (d+1) fs_X0 okM w y2 ce2:=Rep1_part.1 jM
     have B7:FitW ver (d+1) fs_X0 y2:=tW.2 rfl
     obtain ⟨⟨ge2_0,ge2_1,ge2_2,-⟩,mE⟩:=B7
     replace ge2_0:hasS fX0_0 ver=true→FitWF (FitW ver d) ver fX0_0 (y2.at 0):=ge2_0
     have mR:hasS fX0_0 ver=false:=hasS_f (by show ver < 8∨(0≤(9:Int)∧(9:Int) < ver);omega)
     clear ge2_0
     replace ge2_1:hasS fX0_1 ver=true→FitWF (FitW ver d) ver fX0_1 (y2.at 1):=ge2_1
     have mZ:hasS fX0_1 ver=true:=hasS_t (by show (10:Int)≤ver;omega) (by show (-1:Int) < 0∨ver≤(-1:Int);omega)
     replace ge2_1:=ge2_1 mZ
     replace ge2_2:hasS fX0_2 ver=true→FitWF (FitW ver d) ver fX0_2 (y2.at 2):=ge2_2
     have mF:hasS fX0_2 ver=true:=hasS_t (by show (0:Int)≤ver;omega) (by show (-1:Int) < 0∨ver≤(-1:Int);omega)
     replace ge2_2:=ge2_2 mF
     obtain ⟨cse2,qe2,B6,zZ,qU⟩:=jM.inv
     obtain ⟨ce2_0,ee2_0,rfl,rF,ce2_1,ee2_1,rfl,rG,ce2_2,ee2_2,rfl,rH,rfl⟩:=zZ
     replace rF:RepF (RepS true d) (szS true d) fX0_0 okM w (y2.at 0) ce2_0:=rF
     replace rG:RepF (RepS true d) (szS true d) fX0_1 okM w (y2.at 1) ce2_1:=rG
     replace rH:RepF (RepS true d) (szS true d) fX0_2 okM w (y2.at 2) ce2_2:=rH
     obtain rfl:=(RepF_text rfl (by decide)).1 rF
     obtain rfl:=(RepF_uuid rfl).1 rG
     have CC:((uuidS (y2.at 1).s).map byteV).length=16:=by rw [List.length_map,uuidS_len]
     have vF:=flat_bytes (uuidS (y2.at 1).s)
     generalize F1:(uuidS (y2.at 1).s).map byteV=Ze2_1 at *
     obtain ⟨ze2_1_0,ze2_1_1,ze2_1_2,ze2_1_3,ze2_1_4,ze2_1_5,ze2_1_6,ze2_1_7,ze2_1_8,ze2_1_9,ze2_1_10,ze2_1_11,ze2_1_12,ze2_1_13,ze2_1_14,ze2_1_15,rfl⟩:=list16 CC
     simp only [List.all_cons,List.all_nil,Bool.and_true,Bool.and_eq_true] at vF
     obtain ⟨fze2_1_0,fze2_1_1,fze2_1_2,fze2_1_3,fze2_1_4,fze2_1_5,fze2_1_6,fze2_1_7,fze2_1_8,fze2_1_9,fze2_1_10,fze2_1_11,fze2_1_12,fze2_1_13,fze2_1_14,fze2_1_15⟩:=vF
     obtain ⟨pe2_2,rfl,wD⟩:=RepF_listW ge2_2 rfl (by decide) rH
     obtain ⟨abe2_2,ace2_2,rfl,_⟩:=SlR.shape wD
     have vH:=ge2_2.list rfl
     have BS:=vH.1
     obtain ⟨qme2,rfl⟩:=qU.shape
     subst B6
     have fV:x2.1[o2+j2 * 19]? = some (strV (y2.at 0).s):=hq2 0 (by decide)
     have jT:x2.1[o2+(j2 * 19+1)]? = some (ze2_1_0):=hq2 1 (by decide)
     have kA:x2.1[o2+(j2 * 19+2)]? = some (ze2_1_1):=hq2 2 (by decide)
     have kB:x2.1[o2+(j2 * 19+3)]? = some (ze2_1_2):=hq2 3 (by decide)
     have kC:x2.1[o2+(j2 * 19+4)]? = some (ze2_1_3):=hq2 4 (by decide)
     have kD:x2.1[o2+(j2 * 19+5)]? = some (ze2_1_4):=hq2 5 (by decide)
     have kE:x2.1[o2+(j2 * 19+6)]? = some (ze2_1_5):=hq2 6 (by decide)
     have kF:x2.1[o2+(j2 * 19+7)]? = some (ze2_1_6):=hq2 7 (by decide)
     have kG:x2.1[o2+(j2 * 19+8)]? = some (ze2_1_7):=hq2 8 (by decide)
     have kH:x2.1[o2+(j2 * 19+9)]? = some (ze2_1_8):=hq2 9 (by decide)
     have jU:x2.1[o2+(j2 * 19+10)]? = some (ze2_1_9):=hq2 10 (by decide)
     have jV:x2.1[o2+(j2 * 19+11)]? = some (ze2_1_10):=hq2 11 (by decide)
     have jW:x2.1[o2+(j2 * 19+12)]? = some (ze2_1_11):=hq2 12 (by decide)
     have jX:x2.1[o2+(j2 * 19+13)]? = some (ze2_1_12):=hq2 13 (by decide)
     have jY:x2.1[o2+(j2 * 19+14)]? = some (ze2_1_13):=hq2 14 (by decide)
     have jZ:x2.1[o2+(j2 * 19+15)]? = some (ze2_1_14):=hq2 15 (by decide)
     have k7:x2.1[o2+(j2 * 19+16)]? = some (ze2_1_15):=hq2 16 (by decide)
     have k9:x2.1[o2+(j2 * 19+17)]? = some (.slice abe2_2 (y2.at 2).l.length ace2_2):=hq2 17 (by decide)
     have gI:x2.1[o2+(j2 * 19+18)]? = some (.map qme2):=hq2 18 (by decide)
     have kQ:cellsAt x2.1 (o2+(j2 * 19+1)) 16=some (.agg #[ze2_1_0,ze2_1_1,ze2_1_2,ze2_1_3,ze2_1_4,ze2_1_5,ze2_1_6,ze2_1_7,ze2_1_8,ze2_1_9,ze2_1_10,ze2_1_11,ze2_1_12,ze2_1_13,ze2_1_14,ze2_1_15]):=by
      refine cellsAt_of (l:=[ze2_1_0,ze2_1_1,ze2_1_2,ze2_1_3,ze2_1_4,ze2_1_5,ze2_1_6,ze2_1_7,ze2_1_8,ze2_1_9,ze2_1_10,ze2_1_11,ze2_1_12,ze2_1_13,ze2_1_14,ze2_1_15]) (fun j hj => ?_) rfl (by omega)
      rw [show o2+(j2 * 19+1)+j=o2+(j2 * 19+(1+j)) by omega]
      exact (hq2 (1+j) (by omega)).trans (get_mid (pre:=[strV (y2.at 0).s]) (xs:=[ze2_1_0,ze2_1_1,ze2_1_2,ze2_1_3,ze2_1_4,ze2_1_5,ze2_1_6,ze2_1_7,ze2_1_8,ze2_1_9,ze2_1_10,ze2_1_11,ze2_1_12,ze2_1_13,ze2_1_14,ze2_1_15]) (post:=[.slice abe2_2 (y2.at 2).l.length ace2_2,.map qme2]) hj)
     obtain ⟨Xe2_1,GB⟩:∃ X,X=uuidS (y2.at 1).s:=⟨_,rfl⟩
     obtain ⟨XLe2_2,uW⟩:∃ X,X=uvarS ((y2.at 2).l.length+1):=⟨_,rfl⟩
     obtain ⟨XEe2_2,qZ⟩:∃ X,X=(y2.at 2).l.flatMap (fun x:Tree=>fixedS x.n 4):=⟨_,rfl⟩
     obtain ⟨XUe2,uY⟩:∃ X,X=uvarS y2.u.length:=⟨_,rfl⟩
     obtain ⟨XTe2,uX⟩:∃ X,X=y2.u.flatMap oneTag:=⟨_,rfl⟩
     have uE:partS (d+1) fs_X0 ver true y2=(Xe2_1++((XLe2_2++XEe2_2)++[]))++(XUe2++XTe2):=by rw [uY,uX];exact partS_yes rfl mE (plainL_not mR (plainL_has (by decide) mZ ((fieldS_uuid rfl).trans GB.symm) (plainL_has (by decide) mF ((fieldS_list_t (g:=(fun x:Tree=>fixedS x.n 4)) ge2_2 rfl (by decide) (fun x _=>valueS_num 3 (by decide))).trans (by rw [uW,qZ])) rfl)))
     rw [uE] at eX
     simp only [List.length_append,List.length_nil] at eX
     have JD:cellsAt #[ze2_1_0,ze2_1_1,ze2_1_2,ze2_1_3,ze2_1_4,ze2_1_5,ze2_1_6,ze2_1_7,ze2_1_8,ze2_1_9,ze2_1_10,ze2_1_11,ze2_1_12,ze2_1_13,ze2_1_14,ze2_1_15] 0 16=some (.agg #[ze2_1_0,ze2_1_1,ze2_1_2,ze2_1_3,ze2_1_4,ze2_1_5,ze2_1_6,ze2_1_7,ze2_1_8,ze2_1_9,ze2_1_10,ze2_1_11,ze2_1_12,ze2_1_13,ze2_1_14,ze2_1_15]):=cellsAt_full rfl
     repeat ((first|refine qA ?_|apply qB|refine qC ?_|apply qD|apply qE|apply qF|apply qG|apply qH);try simp (disch:=omega) only [go_sem,↓reduceIte,n0,reduceCtorEq,hv_7,eY,u6,cO,cP,cM,eF,dN,eE,fV,jT,kA,kB,kC,kD,kE,kF,kG,kH,jU,jV,jW,jX,jY,jZ,k7,k9,gI,fze2_1_0,fze2_1_1,fze2_1_2,fze2_1_3,fze2_1_4,fze2_1_5,fze2_1_6,fze2_1_7,fze2_1_8,fze2_1_9,fze2_1_10,fze2_1_11,fze2_1_12,fze2_1_13,fze2_1_14,fze2_1_15,kQ,fN,fO,fP,fQ,mI,mH,mG,mJ,hI2,hN2,hS2,JD])
     generalize H2:wr (w7.alloc (.cells #[.int .u8 0,.int .u8 0,.int .u8 0,.int .u8 0,.int .u8 0,.int .u8 0,.int .u8 0,.int .u8 0,.int .u8 0,.int .u8 0,.int .u8 0,.int .u8 0,.int .u8 0,.int .u8 0,.int .u8 0,.int .u8 0] 89)) w7.heap.size 0 [ze2_1_0,ze2_1_1,ze2_1_2,ze2_1_3,ze2_1_4,ze2_1_5,ze2_1_6,ze2_1_7,ze2_1_8,ze2_1_9,ze2_1_10,ze2_1_11,ze2_1_12,ze2_1_13,ze2_1_14,ze2_1_15] = w8
     have IA:Ext w7 w8:=by rw [← H2];exact (Upd.alloc (Upd.refl _ _) _).wr _ _ (.inl (Nat.le_refl _))
     clear H2
     have ha8:=ha7.then IA
     have hB8:B≤w8.heap.size:=Nat.le_trans hB ha8.upd.size
     have hv_8:=ha8.upd.blk_some hv hdv
     have fA:=ha8.upd.blk_some hx1 cJ
     have E3:=ha8.upd.blk_some hx2 eI
     have hu8:=AppendUuid_fn r7 _ w8 ha8.own hB8 (uuidS (y2.at 1).s) (uuidS_len _) (by simp only [List.length_append,List.length_nil];omega)
     rw [F1,← GB] at hu8
     refine (hu8).mono ?_
     rintro r9 w9 hc9
     have ha9:=ha8.trans hc9
     have hB9:B≤w9.heap.size:=Nat.le_trans hB ha9.upd.size
     have hv_9:=ha9.upd.blk_some hv hdv
     have gE:=ha9.upd.blk_some hx1 cJ
     have E4:=ha9.upd.blk_some hx2 eI
     repeat ((first|refine qA ?_|apply qB|refine qC ?_|apply qD|apply qE|apply qF|apply qG|apply qH);try simp (disch:=omega) only [go_sem,↓reduceIte,n0,reduceCtorEq,hv_9,gE,E4,cO,cP,cM,eF,dN,eE,fV,jT,kA,kB,kC,kD,kE,kF,kG,kH,jU,jV,jW,jX,jY,jZ,k7,k9,gI,fze2_1_0,fze2_1_1,fze2_1_2,fze2_1_3,fze2_1_4,fze2_1_5,fze2_1_6,fze2_1_7,fze2_1_8,fze2_1_9,fze2_1_10,fze2_1_11,fze2_1_12,fze2_1_13,fze2_1_14,fze2_1_15,kQ,fN,fO,fP,fQ,mI,mH,mG,mJ,hI2,hN2,hS2])
     refine (AppendCompactArrayLen_fn _ _ _ ha9.own hB9 (y2.at 2).l.length BS (by simp only [List.length_append,List.length_nil];omega)).mono ?_
     rintro r10 w10 uZ
     rw [← uW] at uZ
     have fC:=ha9.trans uZ
     have yH:B≤w10.heap.size:=Nat.le_trans hB fC.upd.size
     have hv_10:=fC.upd.blk_some hv hdv
     have jL:=fC.upd.blk_some hx1 cJ
     have yD:=fC.upd.blk_some hx2 eI
     repeat ((first|refine qA ?_|apply qB|refine qC ?_|apply qD|apply qE|apply qF|apply qG|apply qH);try simp (disch:=omega) only [go_sem,↓reduceIte,n0,reduceCtorEq,hv_10,jL,yD,cO,cP,cM,eF,dN,eE,fV,jT,kA,kB,kC,kD,kE,kF,kG,kH,jU,jV,jW,jX,jY,jZ,k7,k9,gI,fze2_1_0,fze2_1_1,fze2_1_2,fze2_1_3,fze2_1_4,fze2_1_5,fze2_1_6,fze2_1_7,fze2_1_8,fze2_1_9,fze2_1_10,fze2_1_11,fze2_1_12,fze2_1_13,fze2_1_14,fze2_1_15,kQ,fN,fO,fP,fQ,mI,mH,mG,mJ,hI2,hN2,hS2])
     have GM:=fC
     refine W.exitJ 8 (fun ρ w'=>∃ r,ρ 1=r∧ρ 0 = .pointer (some ⟨vb,0,none⟩)∧ρ 5 = .int .i16 ver∧ρ 6 = .bool true∧ρ 166 = .int .i64 j1∧ρ 165 = .int .i64 (t.at 2).l.length∧ρ 15 = .slice (some ⟨b1,o1,none⟩) (t.at 2).l.length ac_2∧ρ 17 = .pointer (some ⟨b1,o1+j1 * 5,none⟩)∧ρ 224 = .int .i64 j2∧ρ 223 = .int .i64 Le1_3.length∧ρ 21 = .slice (some ⟨b2,o2,none⟩) Le1_3.length ace1_3∧ρ 23 = .pointer (some ⟨b2,o2+j2 * 19,none⟩)∧AppR 5 B w v s (([]++XL_2++T1++Xe1_0++Xe1_1++Xe1_2++XLe1_3++T2++Xe2_1++XLe2_2)++XEe2_2) r w')
      (W.loop (fun ρ w'=>∃ (j:Nat) (r:Value),j≤(y2.at 2).l.length∧ρ 271 = .int .i64 j∧ρ 270 = .int .i64 (y2.at 2).l.length∧ρ 26 = .slice abe2_2 (y2.at 2).l.length ace2_2∧ρ 1=r∧ρ 0 = .pointer (some ⟨vb,0,none⟩)∧ρ 5 = .int .i16 ver∧ρ 6 = .bool true∧ρ 166 = .int .i64 j1∧ρ 165 = .int .i64 (t.at 2).l.length∧ρ 15 = .slice (some ⟨b1,o1,none⟩) (t.at 2).l.length ac_2∧ρ 17 = .pointer (some ⟨b1,o1+j1 * 5,none⟩)∧ρ 224 = .int .i64 j2∧ρ 223 = .int .i64 Le1_3.length∧ρ 21 = .slice (some ⟨b2,o2,none⟩) Le1_3.length ace1_3∧ρ 23 = .pointer (some ⟨b2,o2+j2 * 19,none⟩)∧AppR 5 B w v s (([]++XL_2++T1++Xe1_0++Xe1_1++Xe1_2++XLe1_3++T2++Xe2_1++XLe2_2)++((y2.at 2).l.take j).flatMap (fun x:Tree=>fixedS x.n 4)) r w')
       (fun ρ _=>(y2.at 2).l.length - (RowKit.intOf (ρ 271)).toNat) ?_ ?_) ?_
     ·refine ⟨0,_,Nat.zero_le _,?_,?_,?_,?_,?_,?_,?_,?_,?_,?_,?_,?_,?_,?_,?_,fC.eqs (by rw [List.take_zero,List.flatMap_nil,List.append_nil])⟩<;>simp (disch:=omega) only [go_sem,↓reduceIte,n0,reduceCtorEq,fN,fO,fP,fQ,mI,mH,mG,mJ,hI2,hN2,hS2]
      all_goals rfl
     ·rintro ρ w11 ⟨j3,r11,hj3,hI3,hN3,hS3,jN,jO,jP,jQ,rR,rQ,rP,rS,rV,rU,rT,rW,eW⟩
      have uA:B≤w11.heap.size:=Nat.le_trans hB eW.upd.size
      have hv_11:=eW.upd.blk_some hv hdv
      have kT:=eW.upd.blk_some hx1 cJ
      have tS:=eW.upd.blk_some hx2 eI
      by_cases hlt3:j3 < (y2.at 2).l.length
      ·obtain ⟨_,b3,o3,x3,ce3,hb3,BV,hx3,AW,HL,HK,hq3,A4⟩:=SlR.get (size:=1) (by decide) wD hlt3
       subst hb3
       have vC:(y2.at 2).l.take (j3+1)=(y2.at 2).l.take j3++[(y2.at 2).l[j3]]:=List.take_succ_eq_append_getElem hlt3
       have mN:=take_flatMap_len (y2.at 2).l (fun x:Tree=>fixedS x.n 4) (j3+1)
       rw [← qZ,vC,List.flatMap_append,List.flatMap_cons,List.flatMap_nil,List.append_nil] at mN
       have GP:=vH.2 _ (List.getElem_mem hlt3)
       generalize (y2.at 2).l[j3] = y3 at *
       have vX:=hd b3 AW BV
       obtain ⟨T3,uF⟩:∃ T,T=((y2.at 2).l.take j3).flatMap (fun x:Tree=>fixedS x.n 4):=⟨_,rfl⟩
       rw [← uF] at eW mN
       have HF:=eW.upd.blk_some hx3 vX
       obtain rfl:=(Rep1_num (by decide)).1 A4
       have BZ:x3.1[o3+j3]? = some (.int .i32 (IntKind.i32.wrap y3.n)):=by have:=hq3 0 (by decide);rw [Nat.mul_one] at this;exact this
       obtain ⟨Y3,hY3⟩:∃ Y,Y=fixedS (y3).n 4:=⟨_,rfl⟩
       replace mN:(T3++Y3).length≤XEe2_2.length:=by rw [hY3];exact mN
       simp only [List.length_append] at mN
       repeat ((first|refine qA ?_|apply qB|refine qC ?_|apply qD|apply qE|apply qF|apply qG|apply qH);try simp (disch:=omega) only [go_sem,↓reduceIte,n0,reduceCtorEq,hv_11,kT,tS,HF,cO,cP,cM,eF,dN,eE,fV,jT,kA,kB,kC,kD,kE,kF,kG,kH,jU,jV,jW,jX,jY,jZ,k7,k9,gI,fze2_1_0,fze2_1_1,fze2_1_2,fze2_1_3,fze2_1_4,fze2_1_5,fze2_1_6,fze2_1_7,fze2_1_8,fze2_1_9,fze2_1_10,fze2_1_11,fze2_1_12,fze2_1_13,fze2_1_14,fze2_1_15,kQ,BZ,jN,jO,jP,jQ,rR,rQ,rP,rS,rV,rU,rT,rW,hI3,hN3,hS3])
       refine (AppendInt32_fn _ _ _ eW.own uA _ (by simp only [List.length_append,List.length_nil];omega)).mono ?_
       rintro r12 w12 rB
       rw [wrap32,← hY3] at rB
       have fE:=eW.trans rB
       have wO:B≤w12.heap.size:=Nat.le_trans hB fE.upd.size
       have hv_12:=fE.upd.blk_some hv hdv
       have qO:=fE.upd.blk_some hx1 cJ
       have wF:=fE.upd.blk_some hx2 eI
       have KM:=fE.upd.blk_some hx3 vX
       repeat ((first|refine qA ?_|apply qB|refine qC ?_|apply qD|apply qE|apply qF|apply qG|apply qH);try simp (disch:=omega) only [go_sem,↓reduceIte,n0,reduceCtorEq,jN,jO,jP,jQ,rR,rQ,rP,rS,rV,rU,rT,rW,hI3,hN3,hS3])
       refine ⟨⟨j3+1,_,by omega,rfl,rfl,fE.eqs ?_⟩,?_⟩
       ·rw [vC,List.flatMap_append,List.flatMap_cons,List.flatMap_nil,List.append_nil,← uF,hY3];simp only [List.append_assoc,List.append_nil,List.nil_append]
       ·simp only [RowKit.intOf];omega
      ·have BF:j3=(y2.at 2).l.length:=by omega
       subst BF
       rw [List.take_length,← qZ] at eW
       repeat ((first|refine qA ?_|apply qB|refine qC ?_|apply qD|apply qE|apply qF|apply qG|apply qH);try simp (disch:=omega) only [go_sem,↓reduceIte,n0,reduceCtorEq,hI3,hN3])
       exact ⟨_,jN,jO,jP,jQ,rR,rQ,rP,rS,rV,rU,rT,rW,eW⟩
     ·rintro ρ w13 ⟨r13,gJ,gK,gL,gM,oD,oC,oB,oE,oH,oG,oF,oI,eZ⟩
      have uC:B≤w13.heap.size:=Nat.le_trans hB eZ.upd.size
      have hv_13:=eZ.upd.blk_some hv hdv
      have qP:=eZ.upd.blk_some hx1 cJ
      have hZ:=eZ.upd.blk_some hx2 eI
      repeat ((first|refine qA ?_|apply qB|refine qC ?_|apply qD|apply qE|apply qF|apply qG|apply qH);try simp (disch:=omega) only [go_sem,↓reduceIte,n0,reduceCtorEq,hv_13,qP,hZ,cO,cP,cM,eF,dN,eE,fV,jT,kA,kB,kC,kD,kE,kF,kG,kH,jU,jV,jW,jX,jY,jZ,k7,k9,gI,fze2_1_0,fze2_1_1,fze2_1_2,fze2_1_3,fze2_1_4,fze2_1_5,fze2_1_6,fze2_1_7,fze2_1_8,fze2_1_9,fze2_1_10,fze2_1_11,fze2_1_12,fze2_1_13,fze2_1_14,fze2_1_15,kQ,gJ,gK,gL,gM,oD,oC,oB,oE,oH,oG,oF,oI])
      have tU:TagsM (OkS okM w.heap.size) w13 (.map qme2) y2.u:=(qU.weaken fun b h1 h2=>⟨h2,h1⟩).keep (eZ.upd.keeps fun b hb hk=>hd b hb hk.1)
      refine (TagsLen_fn (ok:=OkS okM w.heap.size) w13 hZ (to:=o2+(j2 * 19+18)) gI tU).mono ?_
      rintro _ w13' ⟨rfl,rfl⟩
      have K3:y2.u.length≤32767:=mE.1
      have ew13:IntKind.u32.wrap (y2.u.length:Int)=y2.u.length:=u32_wrap (by omega)
      have ez13:IntKind.u32.wrap (0+(y2.u.length:Int))=y2.u.length:=by rw [Int.zero_add,u32_wrap (by omega)]
      simp (disch:=omega) only [go_sem,↓reduceIte,n0,reduceCtorEq,hv_13,qP,hZ,cO,cP,cM,eF,dN,eE,fV,jT,kA,kB,kC,kD,kE,kF,kG,kH,jU,jV,jW,jX,jY,jZ,k7,k9,gI,fze2_1_0,fze2_1_1,fze2_1_2,fze2_1_3,fze2_1_4,fze2_1_5,fze2_1_6,fze2_1_7,fze2_1_8,fze2_1_9,fze2_1_10,fze2_1_11,fze2_1_12,fze2_1_13,fze2_1_14,fze2_1_15,kQ,gJ,gK,gL,gM,oD,oC,oB,oE,oH,oG,oF,oI,ew13,ez13]
      refine (AppendUvarint_fn _ _ _ eZ.own uC y2.u.length (by omega) (by simp only [List.length_append,List.length_nil];omega)).mono ?_
      rintro r14 w14 rC
      rw [← uY] at rC
      have iB:=eZ.trans rC
      have zO:B≤w14.heap.size:=Nat.le_trans hB iB.upd.size
      have hv_14:=iB.upd.blk_some hv hdv
      have CD:=iB.upd.blk_some hx1 cJ
      have m7:=iB.upd.blk_some hx2 eI
      repeat ((first|refine qA ?_|apply qB|refine qC ?_|apply qD|apply qE|apply qF|apply qG|apply qH);try simp (disch:=omega) only [go_sem,↓reduceIte,n0,reduceCtorEq,hv_14,CD,m7,cO,cP,cM,eF,dN,eE,fV,jT,kA,kB,kC,kD,kE,kF,kG,kH,jU,jV,jW,jX,jY,jZ,k7,k9,gI,fze2_1_0,fze2_1_1,fze2_1_2,fze2_1_3,fze2_1_4,fze2_1_5,fze2_1_6,fze2_1_7,fze2_1_8,fze2_1_9,fze2_1_10,fze2_1_11,fze2_1_12,fze2_1_13,fze2_1_14,fze2_1_15,kQ,gJ,gK,gL,gM,oD,oC,oB,oE,oH,oG,oF,oI])
      have A9:TagsM (OkS okM w.heap.size) w14 (.map qme2) y2.u:=(qU.weaken fun b h1 h2=>⟨h2,h1⟩).keep (iB.upd.keeps fun b hb hk=>hd b hb hk.1)
      refine (AppendEach_fn (ok:=OkS okM w.heap.size) _ _ _ iB.own zO m7 (to:=o2+(j2 * 19+18)) gI A9 (rising_keys mE) mE.1 (tags_small mE A9) (hdK iB) (ownK iB (blk_lt hx2) eI) (by simp only [List.length_append,List.length_nil];omega)).mono ?_
      rintro r15 w15 AY
      rw [← uX] at AY
      have mC:=iB.trans AY
      have EC:B≤w15.heap.size:=Nat.le_trans hB mC.upd.size
      have hv_15:=mC.upd.blk_some hv hdv
      have CE:=mC.upd.blk_some hx1 cJ
      have jR:=mC.upd.blk_some hx2 eI
      repeat ((first|refine qA ?_|apply qB|refine qC ?_|apply qD|apply qE|apply qF|apply qG|apply qH);try simp (disch:=omega) only [go_sem,↓reduceIte,n0,reduceCtorEq,gJ,gK,gL,gM,oD,oC,oB,oE,oH,oG,oF,oI])
      refine ⟨⟨j2+1,_,by omega,rfl,rfl,mC.eqs ?_⟩,?_⟩
      ·rw [lH,List.flatMap_append,List.flatMap_cons,List.flatMap_nil,List.append_nil,← l9,uE];simp only [List.append_assoc,List.append_nil,List.nil_append]
      ·simp only [RowKit.intOf];omega
    ·have pK:j2=Le1_3.length:=by omega
     subst pK
     rw [List.take_length,← qY] at ha7
     repeat ((first|refine qA ?_|apply qB|refine qC ?_|apply qD|apply qE|apply qF|apply qG|apply qH);try simp (disch:=omega) only [go_sem,↓reduceIte,n0,reduceCtorEq,hI2,hN2])
     exact ⟨_,fN,fO,fP,fQ,mI,mH,mG,mJ,ha7⟩
   ·rintro ρ w16 ⟨r16,dJ,oJ,oO,oP,oM,oL,oK,oN,lF⟩
    have zP:B≤w16.heap.size:=Nat.le_trans hB lF.upd.size
    have hv_16:=lF.upd.blk_some hv hdv
    have m6:=lF.upd.blk_some hx1 cJ
    repeat ((first|refine qA ?_|apply qB|refine qC ?_|apply qD|apply qE|apply qF|apply qG|apply qH);try simp (disch:=omega) only [go_sem,↓reduceIte,n0,reduceCtorEq,hv_16,m6,cO,cP,cM,eF,dN,eE,dJ,oJ,oO,oP,oM,oL,oK,oN])
    have DE:TagsM (OkS okM w.heap.size) w16 (.map qme1) y1.u:=(jS.weaken fun b h1 h2=>⟨h2,h1⟩).keep (lF.upd.keeps fun b hb hk=>hd b hb hk.1)
    refine (TagsLen_fn (ok:=OkS okM w.heap.size) w16 m6 (to:=o1+(j1 * 5+4)) dN DE).mono ?_
    rintro _ w16' ⟨rfl,rfl⟩
    have KI:y1.u.length≤32767:=fT.1
    have ew16:IntKind.u32.wrap (y1.u.length:Int)=y1.u.length:=u32_wrap (by omega)
    have ez16:IntKind.u32.wrap (0+(y1.u.length:Int))=y1.u.length:=by rw [Int.zero_add,u32_wrap (by omega)]
    simp (disch:=omega) only [go_sem,↓reduceIte,n0,reduceCtorEq,hv_16,m6,cO,cP,cM,eF,dN,eE,dJ,oJ,oO,oP,oM,oL,oK,oN,ew16,ez16]
    refine (AppendUvarint_fn _ _ _ lF.own zP y1.u.length (by omega) (by simp only [List.length_append,List.length_nil];omega)).mono ?_
    rintro r17 w17 vB
    rw [← o9] at vB
    have lN:=lF.trans vB
    have D1:B≤w17.heap.size:=Nat.le_trans hB lN.upd.size
    have hv_17:=lN.upd.blk_some hv hdv
    have nU:=lN.upd.blk_some hx1 cJ
    repeat ((first|refine qA ?_|apply qB|refine qC ?_|apply qD|apply qE|apply qF|apply qG|apply qH);try simp (disch:=omega) only [go_sem,↓reduceIte,n0,reduceCtorEq,hv_17,nU,cO,cP,cM,eF,dN,eE,dJ,oJ,oO,oP,oM,oL,oK,oN])
    have DF:TagsM (OkS okM w.heap.size) w17 (.map qme1) y1.u:=(jS.weaken fun b h1 h2=>⟨h2,h1⟩).keep (lN.upd.keeps fun b hb hk=>hd b hb hk.1)
    refine (AppendEach_fn (ok:=OkS okM w.heap.size) _ _ _ lN.own D1 nU (to:=o1+(j1 * 5+4)) dN DF (rising_keys fT) fT.1 (tags_small fT DF) (hdK lN) (ownK lN (blk_lt hx1) cJ) (by simp only [List.length_append,List.length_nil];omega)).mono ?_
    rintro r18 w18 AZ
    rw [← o8] at AZ
    have mD:=lN.trans AZ
    have D2:B≤w18.heap.size:=Nat.le_trans hB mD.upd.size
    have hv_18:=mD.upd.blk_some hv hdv
    have zC:=mD.upd.blk_some hx1 cJ
    repeat ((first|refine qA ?_|apply qB|refine qC ?_|apply qD|apply qE|apply qF|apply qG|apply qH);try simp (disch:=omega) only [go_sem,↓reduceIte,n0,reduceCtorEq,dJ,oJ,oO,oP,oM,oL,oK,oN])
    refine ⟨⟨j1+1,_,by omega,rfl,rfl,mD.eqs ?_⟩,?_⟩
    ·rw [lG,List.flatMap_append,List.flatMap_cons,List.flatMap_nil,List.append_nil,← l8,l7];simp only [List.append_assoc,List.append_nil,List.nil_append]
    ·simp only [RowKit.intOf];omega
  ·have pJ:j1=(t.at 2).l.length:=by omega
   subst pJ
   rw [List.take_length,← hXE_2] at ha2
   repeat ((first|refine qA ?_|apply qB|refine qC ?_|apply qD|apply qE|apply qF|apply qG|apply qH);try simp (disch:=omega) only [go_sem,↓reduceIte,n0,reduceCtorEq,hI1,hN1])
   exact ⟨_,eH,eG,dJ,dI,ha2⟩
 ·rintro ρ w19 ⟨r19,dI,mK,mL,mM,oA⟩
  have D3:B≤w19.heap.size:=Nat.le_trans hB oA.upd.size
  have hv_19:=oA.upd.blk_some hv hdv
  repeat ((first|refine qA ?_|apply qB|refine qC ?_|apply qD|apply qE|apply qF|apply qG|apply qH);try simp (disch:=omega) only [go_sem,↓reduceIte,n0,reduceCtorEq,hv_19,dI,mK,mL,mM])
  refine (AppendBool_fn _ _ _ oA.own D3 _ (by simp only [List.length_append,List.length_nil];omega)).mono ?_
  rintro r20 w20 B4
  rw [← hXX_3] at B4
  have pD:=oA.trans B4
  have ED:B≤w20.heap.size:=Nat.le_trans hB pD.upd.size
  have hv_20:=pD.upd.blk_some hv hdv
  repeat ((first|refine qA ?_|apply qB|refine qC ?_|apply qD|apply qE|apply qF|apply qG|apply qH);try simp (disch:=omega) only [go_sem,↓reduceIte,n0,reduceCtorEq,hv_20,dI,mK,mL,mM])
  have DG:TagsM (OkS okM w.heap.size) w20 (.map qm) t.u:=(hT.weaken fun b h1 h2=>⟨h2,h1⟩).keep (pD.upd.keeps fun b hb hk=>hd b hb hk.1)
  refine (TagsLen_fn (ok:=OkS okM w.heap.size) w20 hv_20 (to:=5) (show (#[.int .i16 ver,strV (t.at 0).s,p_1,.slice ab_2 (t.at 2).l.length ac_2,.bool (decide ((t.at 3).n % 2=1)),.map qm]:Array Value)[5]? = some (.map qm) from rfl) DG).mono ?_
  rintro _ w20' ⟨rfl,rfl⟩
  have KL:t.u.length≤32767:=hfu.1
  have ew20:IntKind.u32.wrap (t.u.length:Int)=t.u.length:=u32_wrap (by omega)
  have ez20:IntKind.u32.wrap (0+(t.u.length:Int))=t.u.length:=by rw [Int.zero_add,u32_wrap (by omega)]
  simp (disch:=omega) only [go_sem,↓reduceIte,n0,reduceCtorEq,hv_20,dI,mK,mL,mM,ew20,ez20]
  refine (AppendUvarint_fn _ _ _ pD.own ED t.u.length (by omega) (by simp only [List.length_append,List.length_nil];omega)).mono ?_
  rintro r21 w21 B5
  rw [← hXU] at B5
  have rA:=pD.trans B5
  have FL:B≤w21.heap.size:=Nat.le_trans hB rA.upd.size
  have hv_21:=rA.upd.blk_some hv hdv
  repeat ((first|refine qA ?_|apply qB|refine qC ?_|apply qD|apply qE|apply qF|apply qG|apply qH);try simp (disch:=omega) only [go_sem,↓reduceIte,n0,reduceCtorEq,hv_21,dI,mK,mL,mM])
  have G2:TagsM (OkS okM w.heap.size) w21 (.map qm) t.u:=(hT.weaken fun b h1 h2=>⟨h2,h1⟩).keep (rA.upd.keeps fun b hb hk=>hd b hb hk.1)
  refine (AppendEach_fn (ok:=OkS okM w.heap.size) _ _ _ rA.own FL hv_21 (to:=5) (show (#[.int .i16 ver,strV (t.at 0).s,p_1,.slice ab_2 (t.at 2).l.length ac_2,.bool (decide ((t.at 3).n % 2=1)),.map qm]:Array Value)[5]? = some (.map qm) from rfl) G2 (rising_keys hfu) hfu.1 (tags_small hfu G2) (hdK rA) (ownK rA (blk_lt hv) hdv) (by simp only [List.length_append,List.length_nil];omega)).mono ?_
  rintro r22 w22 GO
  rw [← hXT] at GO
  have F2:=rA.trans GO
  have KB:B≤w22.heap.size:=Nat.le_trans hB F2.upd.size
  have hv_22:=F2.upd.blk_some hv hdv
  repeat ((first|refine qA ?_|apply qB|refine qC ?_|apply qD|apply qE|apply qF|apply qG|apply qH);try simp (disch:=omega) only [go_sem,↓reduceIte,n0,reduceCtorEq,hv_22,dI,mK,mL,mM])
  refine F2.eqs ?_
  rw [hP];simp only [List.append_assoc,List.append_nil,List.nil_append]

set_option maxHeartbeats 2000000 in
theorem BehindQ_fn {d:Nat} {ok:Blocks} {ev:Value} (ver:Nat) (hv:ver≤10) (t:Tree) (dst b:Value) (D:List UInt8) (w:World) (hd:BytesV ok w dst D) (hb:BytesV ok w b (partS (d+3) fsr_Q ver (flexB 6 ver) t)) (hG:Glo ev w) (hrd:rdP (d+3) ver (flexB 6 ver) fsr_Q (some (partS (d+3) fsr_Q ver (flexB 6 ver) t))=(cnP (d+3) ver (flexB 6 ver) fsr_Q t,some []))
  (hcn:partS (d+3) fsr_Q ver (flexB 6 ver) (cnP (d+3) ver (flexB 6 ver) fsr_Q t)=(partS (d+3) fsr_Q ver (flexB 6 ver) t)∧FitW ver (d+3) fsr_Q (cnP (d+3) ver (flexB 6 ver) fsr_Q t)) (hD:D.length≤1000) (hl:(partS (d+3) fsr_Q ver (flexB 6 ver) t).length≤2 ^ 40) :
  Fn Tryz.prog 9 #[.int .i64 ver,dst,b] w fun r w'=>(∃ v,r = .tuple #[v,.bool true]∧OwnBy 5 w.heap.size w' v (D++(partS (d+3) fsr_Q ver (flexB 6 ver) t)))∧Ext w w':=by
 obtain ⟨da,dc,rfl,_⟩:=hd.shape
 obtain ⟨ba,bc,rfl,_⟩:=hb.shape
 have hgl:=hG.lt
 have ew:IntKind.i16.wrap (ver:Int)=ver:=i16_wrap (by omega)
 refine fn_of_W Tryz.func9 rfl Tryz.results9 Tryz.ntmps9 rfl ?_
 repeat ((first|refine qA ?_|apply qB|refine qC ?_|apply qD|apply qE|apply qF|apply qG|apply qH);try simp (maxSteps:=1000000)(disch:=(first|omega|(simp only [qI,qJ,qK]<;>omega)|exact qL _)) only [go_sem,↓reduceIte,n0,reduceCtorEq,n1,n2,n3,n4,n5,i0,i1,i2,i3,i4,i5,i6,i7,ew])
 refine (NewPtrQ_fn w).mono ?_
 rintro _ w1 ⟨rfl,hb1,hE1⟩
 have hz1:=blk_lt hb1
 repeat ((first|refine qA ?_|apply qB|refine qC ?_|apply qD|apply qE|apply qF|apply qG|apply qH);try simp (maxSteps:=1000000)(disch:=(first|omega|(simp only [qI,qJ,qK]<;>omega)|exact qL _)) only [go_sem,↓reduceIte,n0,reduceCtorEq,n1,n2,n3,n4,n5,i0,i1,i2,i3,i4,i5,i6,i7,ew])
 refine (SetVersionQ_fn w1 (vb:=w.heap.size) ver hb1).mono ?_
 rintro _ w2 ⟨hb2,hU2⟩
 have hz2:=hU2.size
 have hE2:Ext w w2:=hE1.more hU2 fun b hb h=>by omega
 repeat ((first|refine qA ?_|apply qB|refine qC ?_|apply qD|apply qE|apply qF|apply qG|apply qH);try simp (maxSteps:=1000000)(disch:=(first|omega|(simp only [qI,qJ,qK]<;>omega)|exact qL _)) only [go_sem,↓reduceIte,n0,reduceCtorEq,n1,n2,n3,n4,n5,i0,i1,i2,i3,i4,i5,i6,i7,ew])
 refine wp_copyN ap_22_22 (ok:=ok) (s:=(partS (d+3) fsr_Q ver (flexB 6 ver) t)) (v:=.slice ba _ bc) (by first|rfl|simp (maxSteps:=1000000)(disch:=(first|omega|(simp only [qI,qJ,qK]<;>omega)|exact qL _)) only [go_sem,↓reduceIte,n0,reduceCtorEq,n1,n2,n3,n4,n5,i0,i1,i2,i3,i4,i5,i6,i7]) (by first|rfl|simp (maxSteps:=1000000)(disch:=(first|omega|(simp only [qI,qJ,qK]<;>omega)|exact qL _)) only [go_sem,↓reduceIte,n0,reduceCtorEq,n1,n2,n3,n4,n5,i0,i1,i2,i3,i4,i5,i6,i7]) (hb.keep (hE2.keeps _)) (by omega) ?_
 intro v3 w3 ho3 hE3 hf3
 have hz3:=hE3.size
 have hb3:=hE3.blk_some hb2 id
 have hG3:Glo ev w3:=hG.updS (hE2.trans hE3) id id
 obtain ⟨a3,c3,rfl,_⟩:=ho3.shape
 simp (maxSteps:=1000000)(disch:=(first|omega|(simp only [qI,qJ,qK]<;>omega)|exact qL _)) only [go_sem,↓reduceIte,n0,reduceCtorEq,n1,n2,n3,n4,n5,i0,i1,i2,i3,i4,i5,i6,i7]
 refine (ReadFromQ_fn (d:=d) (ok:=fun b=>b < w3.heap.size∧b≠w.heap.size) (ev:=ev) (ver:=ver) (by omega) (by omega) w3 _ _ hb3 ((Own.bytes ho3 hf3).weaken fun b hb hk=>⟨hb,by omega⟩) (fun b hb=>hb) hG3 ⟨by omega,by omega⟩).mono ?_
 rintro r4 w4 ⟨_,h4,hU4⟩
 rw [hrd] at h4
 obtain ⟨rfl,cells,hb4,hR4⟩:=h4 (by simp)
 have hz4:=hU4.size
 have hE4:Ext w w4:=(hE2.trans hE3).more hU4 fun b hb h=>by omega
 have hR4':RepS true (d+3) fsr_Q (fun b=>b < w4.heap.size) w4 (cnP (d+3) ver (flexB 6 ver) fsr_Q t) cells:=(RepS_lay true (d+3) fsr_Q).weaken hR4 fun b hb _=>hb
 repeat (first|simp (maxSteps:=1000000)(disch:=(first|omega|(simp only [qI,qJ,qK]<;>omega)|exact qL _)) only [go_sem,↓reduceIte,n0,reduceCtorEq,n1,n2,n3,n4,n5,i0,i1,i2,i3,i4,i5,i6,i7]|refine qA ?_|apply qB|refine qC ?_|apply qD|apply qE|apply qF|apply qG|apply qH)
 refine wp_copyN ap_22_22 (ok:=ok) (s:=D) (v:=.slice da _ dc) (by first|rfl|simp (maxSteps:=1000000)(disch:=(first|omega|(simp only [qI,qJ,qK]<;>omega)|exact qL _)) only [go_sem,↓reduceIte,n0,reduceCtorEq,n1,n2,n3,n4,n5,i0,i1,i2,i3,i4,i5,i6,i7]) (by first|rfl|simp (maxSteps:=1000000)(disch:=(first|omega|(simp only [qI,qJ,qK]<;>omega)|exact qL _)) only [go_sem,↓reduceIte,n0,reduceCtorEq,n1,n2,n3,n4,n5,i0,i1,i2,i3,i4,i5,i6,i7]) (hd.keep (hE4.keeps _)) (by omega) ?_
 intro v5 w5 ho5 hE5 hf5
 have hz5:=hE5.size
 have hb5:=hE5.blk_some hb4 id
 have hR5:=(RepS_lay true (d+3) fsr_Q).keep hR4' (hE5.keeps _)
 obtain ⟨a5,c5,rfl,_⟩:=ho5.shape
 simp (maxSteps:=1000000)(disch:=(first|omega|(simp only [qI,qJ,qK]<;>omega)|exact qL _)) only [go_sem,↓reduceIte,n0,reduceCtorEq,n1,n2,n3,n4,n5,i0,i1,i2,i3,i4,i5,i6,i7]
 have hcl:(0≤(ver:Int)∧(ver:Int)≤1)∨(2≤(ver:Int)∧(ver:Int)≤5)∨(6≤(ver:Int)∧(ver:Int)≤6)∨(7≤(ver:Int)∧(ver:Int)≤7)∨(8≤(ver:Int)∧(ver:Int)≤8)∨(9≤(ver:Int)∧(ver:Int)≤9)∨(10≤(ver:Int)∧(ver:Int)≤10):=by omega
 rcases hcl with ⟨h1,h2⟩|⟨h1,h2⟩|⟨h1,h2⟩|⟨h1,h2⟩|⟨h1,h2⟩|⟨h1,h2⟩|⟨h1,h2⟩
 ·have hfl:flexB 6 ver=false:=by simp only [flexB,Bool.and_eq_false_iff,decide_eq_false_iff_not];omega
  rw [hfl] at hcn hR5 hl ⊢
  refine (appQ_0 (d:=d) (B:=w.heap.size) h1 h2 _ cells _ D w5 (Own.mono ho5 (by omega)) (by omega) hb5 hR5 hcn.2 (fun b _ h1 h2=>by have:=hf5 b h2;omega) (fun h=>by have:=hf5 _ h;omega) (by rw [hcn.1];omega)).mono ?_
  rintro r6 w6 h6
  repeat ((first|refine qA ?_|apply qB|refine qC ?_|apply qD|apply qE|apply qF|apply qG|apply qH);try simp (maxSteps:=1000000)(disch:=(first|omega|(simp only [qI,qJ,qK]<;>omega)|exact qL _)) only [go_sem,↓reduceIte,n0,reduceCtorEq,n1,n2,n3,n4,n5,i0,i1,i2,i3,i4,i5,i6,i7])
  refine ⟨by have:=h6.own;rw [hcn.1] at this;exact ⟨_,rfl,this⟩,(hE4.trans hE5).more h6.upd fun b hb h=>by have:=hf5 b h;omega⟩
 ·have hfl:flexB 6 ver=false:=by simp only [flexB,Bool.and_eq_false_iff,decide_eq_false_iff_not];omega
  rw [hfl] at hcn hR5 hl ⊢
  refine (appQ_1 (d:=d) (B:=w.heap.size) h1 h2 _ cells _ D w5 (Own.mono ho5 (by omega)) (by omega) hb5 hR5 hcn.2 (fun b _ h1 h2=>by have:=hf5 b h2;omega) (fun h=>by have:=hf5 _ h;omega) (by rw [hcn.1];omega)).mono ?_
  rintro r6 w6 h6
  repeat ((first|refine qA ?_|apply qB|refine qC ?_|apply qD|apply qE|apply qF|apply qG|apply qH);try simp (maxSteps:=1000000)(disch:=(first|omega|(simp only [qI,qJ,qK]<;>omega)|exact qL _)) only [go_sem,↓reduceIte,n0,reduceCtorEq,n1,n2,n3,n4,n5,i0,i1,i2,i3,i4,i5,i6,i7])
  refine ⟨by have:=h6.own;rw [hcn.1] at this;exact ⟨_,rfl,this⟩,(hE4.trans hE5).more h6.upd fun b hb h=>by have:=hf5 b h;omega⟩
 ·have hfl:flexB 6 ver=true:=by simp only [flexB,Bool.and_eq_true,decide_eq_true_eq];omega
  rw [hfl] at hcn hR5 hl ⊢
  refine (appQ_2 (d:=d) (B:=w.heap.size) h1 h2 _ cells _ D w5 (Own.mono ho5 (by omega)) (by omega) hb5 hR5 hcn.2 (fun b _ h1 h2=>by have:=hf5 b h2;omega) (fun h=>by have:=hf5 _ h;omega) (by rw [hcn.1];omega)).mono ?_
  rintro r6 w6 h6
  repeat ((first|refine qA ?_|apply qB|refine qC ?_|apply qD|apply qE|apply qF|apply qG|apply qH);try simp (maxSteps:=1000000)(disch:=(first|omega|(simp only [qI,qJ,qK]<;>omega)|exact qL _)) only [go_sem,↓reduceIte,n0,reduceCtorEq,n1,n2,n3,n4,n5,i0,i1,i2,i3,i4,i5,i6,i7])
  refine ⟨by have:=h6.own;rw [hcn.1] at this;exact ⟨_,rfl,this⟩,(hE4.trans hE5).more h6.upd fun b hb h=>by have:=hf5 b h;omega⟩
 ·have hfl:flexB 6 ver=true:=by simp only [flexB,Bool.and_eq_true,decide_eq_true_eq];omega
  rw [hfl] at hcn hR5 hl ⊢
  refine (appQ_3 (d:=d) (B:=w.heap.size) h1 h2 _ cells _ D w5 (Own.mono ho5 (by omega)) (by omega) hb5 hR5 hcn.2 (fun b _ h1 h2=>by have:=hf5 b h2;omega) (fun h=>by have:=hf5 _ h;omega) (by rw [hcn.1];omega)).mono ?_
  rintro r6 w6 h6
  repeat ((first|refine qA ?_|apply qB|refine qC ?_|apply qD|apply qE|apply qF|apply qG|apply qH);try simp (maxSteps:=1000000)(disch:=(first|omega|(simp only [qI,qJ,qK]<;>omega)|exact qL _)) only [go_sem,↓reduceIte,n0,reduceCtorEq,n1,n2,n3,n4,n5,i0,i1,i2,i3,i4,i5,i6,i7])
  refine ⟨by have:=h6.own;rw [hcn.1] at this;exact ⟨_,rfl,this⟩,(hE4.trans hE5).more h6.upd fun b hb h=>by have:=hf5 b h;omega⟩
 ·have hfl:flexB 6 ver=true:=by simp only [flexB,Bool.and_eq_true,decide_eq_true_eq];omega
  rw [hfl] at hcn hR5 hl ⊢
  refine (appQ_4 (d:=d) (B:=w.heap.size) h1 h2 _ cells _ D w5 (Own.mono ho5 (by omega)) (by omega) hb5 hR5 hcn.2 (fun b _ h1 h2=>by have:=hf5 b h2;omega) (fun h=>by have:=hf5 _ h;omega) (by rw [hcn.1];omega)).mono ?_
  rintro r6 w6 h6
  repeat ((first|refine qA ?_|apply qB|refine qC ?_|apply qD|apply qE|apply qF|apply qG|apply qH);try simp (maxSteps:=1000000)(disch:=(first|omega|(simp only [qI,qJ,qK]<;>omega)|exact qL _)) only [go_sem,↓reduceIte,n0,reduceCtorEq,n1,n2,n3,n4,n5,i0,i1,i2,i3,i4,i5,i6,i7])
  refine ⟨by have:=h6.own;rw [hcn.1] at this;exact ⟨_,rfl,this⟩,(hE4.trans hE5).more h6.upd fun b hb h=>by have:=hf5 b h;omega⟩
 ·have hfl:flexB 6 ver=true:=by simp only [flexB,Bool.and_eq_true,decide_eq_true_eq];omega
  rw [hfl] at hcn hR5 hl ⊢
  refine (appQ_5 (d:=d) (B:=w.heap.size) h1 h2 _ cells _ D w5 (Own.mono ho5 (by omega)) (by omega) hb5 hR5 hcn.2 (fun b _ h1 h2=>by have:=hf5 b h2;omega) (fun h=>by have:=hf5 _ h;omega) (by rw [hcn.1];omega)).mono ?_
  rintro r6 w6 h6
  repeat ((first|refine qA ?_|apply qB|refine qC ?_|apply qD|apply qE|apply qF|apply qG|apply qH);try simp (maxSteps:=1000000)(disch:=(first|omega|(simp only [qI,qJ,qK]<;>omega)|exact qL _)) only [go_sem,↓reduceIte,n0,reduceCtorEq,n1,n2,n3,n4,n5,i0,i1,i2,i3,i4,i5,i6,i7])
  refine ⟨by have:=h6.own;rw [hcn.1] at this;exact ⟨_,rfl,this⟩,(hE4.trans hE5).more h6.upd fun b hb h=>by have:=hf5 b h;omega⟩
 ·have hfl:flexB 6 ver=true:=by simp only [flexB,Bool.and_eq_true,decide_eq_true_eq];omega
  rw [hfl] at hcn hR5 hl ⊢
  refine (appQ_6 (d:=d) (B:=w.heap.size) h1 h2 _ cells _ D w5 (Own.mono ho5 (by omega)) (by omega) hb5 hR5 hcn.2 (fun b _ h1 h2=>by have:=hf5 b h2;omega) (fun h=>by have:=hf5 _ h;omega) (by rw [hcn.1];omega)).mono ?_
  rintro r6 w6 h6
  repeat ((first|refine qA ?_|apply qB|refine qC ?_|apply qD|apply qE|apply qF|apply qG|apply qH);try simp (maxSteps:=1000000)(disch:=(first|omega|(simp only [qI,qJ,qK]<;>omega)|exact qL _)) only [go_sem,↓reduceIte,n0,reduceCtorEq,n1,n2,n3,n4,n5,i0,i1,i2,i3,i4,i5,i6,i7])
  refine ⟨by have:=h6.own;rw [hcn.1] at this;exact ⟨_,rfl,this⟩,(hE4.trans hE5).more h6.upd fun b hb h=>by have:=hf5 b h;omega⟩


def rGQ (t:Tree):Tree:=.mk t.n t.s t.null [(t.at 0),(t.at 1),(t.at 2),(t.at 3).setNull false] t.u
def rLQ (t:Tree):Tree:=.mk t.n t.s t.null (t.l.map rGQ) t.u
def rTQ (t:Tree):Tree:=.mk t.n t.s t.null [(t.at 0),(t.at 1),(rLQ (t.at 2)),(t.at 3)] t.u
theorem fieldGQ (pt:List Fld→Int→Bool→Tree→List UInt8) (v:Int) (flex:Bool) (x:Tree):fieldS pt frX1_3 v flex (x.setNull false)=fieldS pt fX1_3 v flex x:=by
 unfold fieldS
 rw [if_pos (show frX1_3.kind=11 from rfl),if_pos (show fX1_3.kind=11 from rfl)]
 have h1:nullS frX1_3 v (x.setNull false)=false:=by simp [nullS,Tree.setNull,Tree.null]
 have h2:nullS fX1_3 v x=false:=by simp [nullS,show fX1_3.null = -1 from rfl]
 rw [h1,h2];rfl
theorem partGQ (d:Nat) (v:Int) (flex:Bool) (t:Tree):partS (d+1) fsr_X1 v flex (rGQ t)=partS (d+1) fs_X1 v flex t:=by
 have hk1:knownS fsr_X1=0:=rfl
 have hk2:knownS fs_X1=0:=rfl
 have e1:tagsS (partS d) (d+1) fsr_X1 v flex (rGQ t)=[]:=by unfold tagsS;rw [hk1];rfl
 have e2:tagsS (partS d) (d+1) fs_X1 v flex t=[]:=by unfold tagsS;rw [hk2];rfl
 have hu:unknownS fsr_X1 (rGQ t).u=unknownS fs_X1 t.u:=rfl
 have hp:plainL (partS d) v flex (rGQ t) fsr_X1 0=plainL (partS d) v flex t fs_X1 0:=by
  show plainL (partS d) v flex (rGQ t) [fX1_0,fX1_1,fX1_2,frX1_3] 0=plainL (partS d) v flex t [fX1_0,fX1_1,fX1_2,fX1_3] 0
  simp only [plainL,Nat.zero_add,Nat.reduceAdd]
  rw [show (rGQ t).at 3=(t.at 3).setNull false from rfl,fieldGQ]
  rfl
 rw [partS_eq,partS_eq]
 unfold partT
 rw [e1,e2,plainS_L,plainS_L,hp,hu]
theorem fieldLQ (d:Nat) (v:Int) (flex:Bool) (x:Tree):fieldS (partS (d+1)) frQ_2 v flex (rLQ x)=fieldS (partS (d+1)) fQ_2 v flex x:=by
 unfold fieldS
 rw [if_pos (show frQ_2.kind=11 from rfl),if_pos (show fQ_2.kind=11 from rfl)]
 have h1:nullS frQ_2 v (rLQ x)=false:=by simp [nullS,show frQ_2.null = -1 from rfl]
 have h2:nullS fQ_2 v x=false:=by simp [nullS,show fQ_2.null = -1 from rfl]
 rw [h1,h2]
 simp only [Bool.false_eq_true,if_false]
 have ht:thingsS (rLQ x).l=(thingsS x.l).map rGQ:=by simp [thingsS,rLQ,Tree.l,List.map_take]
 rw [ht,List.length_map,List.flatMap_map]
 congr 1
 refine flatMap_ext fun y _ => ?_
 show valueS _ 10 fsr_X1 _ _ _ _=valueS _ 10 fs_X1 _ _ _ _
 rw [valueS_part,valueS_part]
 exact partGQ d v flex y
theorem partRQ (d:Nat) (v:Int) (flex:Bool) (t:Tree):partS (d+2) fsr_Q v flex (rTQ t)=partS (d+2) fs_Q v flex t:=by
 have hk1:knownS fsr_Q=0:=rfl
 have hk2:knownS fs_Q=0:=rfl
 have e1:tagsS (partS (d+1)) (d+2) fsr_Q v flex (rTQ t)=[]:=by unfold tagsS;rw [hk1];rfl
 have e2:tagsS (partS (d+1)) (d+2) fs_Q v flex t=[]:=by unfold tagsS;rw [hk2];rfl
 have hu:unknownS fsr_Q (rTQ t).u=unknownS fs_Q t.u:=rfl
 have hp:plainL (partS (d+1)) v flex (rTQ t) fsr_Q 0=plainL (partS (d+1)) v flex t fs_Q 0:=by
  show plainL (partS (d+1)) v flex (rTQ t) [fQ_0,fQ_1,frQ_2,fQ_3] 0=plainL (partS (d+1)) v flex t [fQ_0,fQ_1,fQ_2,fQ_3] 0
  simp only [plainL,Nat.zero_add,Nat.reduceAdd]
  rw [show (rTQ t).at 2=rLQ (t.at 2) from rfl,fieldLQ]
  rfl
 rw [partS_eq,partS_eq]
 unfold partT
 rw [e1,e2,plainS_L,plainS_L,hp,hu]
theorem sizedGQ {N:Nat} {t:Tree} (h:Sized N t):∃ M,Sized M (rGQ t):=by
 have hn:∀ (x:Tree) (b:Bool),Sized N x→Sized N (x.setNull b):=fun x b h=>by cases h with|mk ns hl he hk hN=>exact .mk ns hl he hk hN
 have hu:∀ x∈t.u,x.1 < 4294967296:=by cases h with|mk ns hl he hk hN=>exact hk
 refine ⟨_,.mk [N,N,N,N] rfl (fun i h1 h2 => ?_) hu (Nat.le_refl _)⟩
 match i,h1,h2 with
 | 0,_,_=>exact h.at 0
 | 1,_,_=>exact h.at 1
 | 2,_,_=>exact h.at 2
 | 3,_,_=>exact hn _ _ (h.at 3)
theorem sizedLQ {N:Nat} {t:Tree} (h:Sized N t):∃ M,Sized M (rLQ t):=by
 have hu:∀ x∈t.u,x.1 < 4294967296:=by cases h with|mk ns hl he hk hN=>exact hk
 have key:∀ l:List Tree,(∀ x∈l,∃ N,Sized N x)→∃ ns:List Nat,ns.length=(l.map rGQ).length∧∀ i (h1:i < (l.map rGQ).length) (h2:i < ns.length),Sized ns[i] (l.map rGQ)[i]:=by
  intro l
  induction l with
  | nil=>intro _;exact ⟨[],rfl,fun i h=>by simp at h⟩
  | cons x l ih =>
   intro hx
   obtain ⟨ns,h1,h2⟩:=ih fun y hy=>hx y (by simp [hy])
   obtain ⟨N,hN⟩:=hx x (by simp)
   obtain ⟨M,hM⟩:=sizedGQ hN
   refine ⟨M :: ns,by simp [h1],fun i g1 g2 => ?_⟩
   match i,g1,g2 with
   | 0,_,_=>exact hM
   | i+1,g1,g2=>exact h2 i (by simpa using g1) (by simpa using g2)
 obtain ⟨ns,h1,h2⟩:=key t.l fun x hx=>by
  obtain ⟨i,hi,rfl⟩:=List.getElem_of_mem hx
  exact h.el hi
 exact ⟨_,.mk ns h1 h2 hu (Nat.le_refl _)⟩
theorem sizedRQ {N:Nat} {t:Tree} (h:Sized N t):∃ M,Sized M (rTQ t):=by
 have hu:∀ x∈t.u,x.1 < 4294967296:=by cases h with|mk ns hl he hk hN=>exact hk
 obtain ⟨M,hM⟩:=sizedLQ (h.at 2)
 refine ⟨_,.mk [N,N,M,N] rfl (fun i h1 h2 => ?_) hu (Nat.le_refl _)⟩
 match i,h1,h2 with
 | 0,_,_=>exact h.at 0
 | 1,_,_=>exact h.at 1
 | 2,_,_=>exact hM
 | 3,_,_=>exact h.at 3

set_option maxHeartbeats 2000000 in
theorem law_BehindQ {ok:Blocks} {ev:Value} (n:Nat) (hn:n < 256) (dst:Value) (Dd:List UInt8) (t:Tree) (ct:List Value) (w:World) (hd:BytesV ok w dst Dd) (ht:TreeC ok w t ct) (hsm:Small 4611686018427387903 t) (hG:Glo ev w) (hDl:Dd.length≤1048576) {N:Nat} (hN:N≤1048576) (hsz:Sized N t) :
  Fn Tryz.prog 3 #[.int .u8 n,dst,.agg ct.toArray] w fun r w'=>r = .bool true∧Ext w w':=by
 obtain ⟨vS,vL,vU,rfl,hn',hS,hL,hU⟩:=ht.inv
 obtain ⟨da,dc,rfl,_⟩:=hd.shape
 have f1:=hS.flat
 have f2:=SlR.flat hL
 have f3:=SlR.flat hU
 have hD1:¬ (2147483647:Int) < (Dd.length:Int):=by omega
 have hE:Ext w (w.alloc (.cells #[.int .i64 t.n,vS,.bool t.null,vL,vU] 26)):=Upd.alloc (Upd.refl _ _) _
 refine fn_of_W Tryz.func3 rfl Tryz.results3 Tryz.ntmps3 rfl ?_
 repeat ((first|refine qA ?_|apply qB|refine qC ?_|apply qD|apply qE|apply qF|apply qG|apply qH);try simp (maxSteps:=1000000)(disch:=(first|omega|(simp only [qI,qJ,qK]<;>omega)|exact qL _)) only [go_sem,↓reduceIte,n0,reduceCtorEq,n1,n2,n3,n4,n5,i0,i1,i2,i3,i4,i5,i6,i7,f1,f2,f3,cellsAt_five,hD1])
 have hb:blk (w.alloc (.cells #[.int .i64 t.n,vS,.bool t.null,vL,vU] 26)) w.heap.size=some (#[.int .i64 t.n,vS,.bool t.null,vL,vU],26,(0,0)):=blk_alloc_new rfl
 generalize (w.alloc (.cells #[.int .i64 t.n,vS,.bool t.null,vL,vU] 26))=w1 at *
 refine (zzFits1_fn (ok:=ok) t _ w1 (ht.keep (hE.keeps _)) hsm).mono ?_
 rintro r2 w2 ⟨⟨bb,rfl⟩,hE2⟩
 cases bb with
 | false =>
  simp (maxSteps:=1000000)(disch:=(first|omega|(simp only [qI,qJ,qK]<;>omega)|exact qL _)) only [go_sem,↓reduceIte,n0,reduceCtorEq,n1,n2,n3,n4,n5,i0,i1,i2,i3,i4,i5,i6,i7]
  repeat ((first|refine qA ?_|apply qB|refine qC ?_|apply qD|apply qE|apply qF|apply qG|apply qH);try simp (maxSteps:=1000000)(disch:=(first|omega|(simp only [qI,qJ,qK]<;>omega)|exact qL _)) only [go_sem,↓reduceIte,n0,reduceCtorEq,n1,n2,n3,n4,n5,i0,i1,i2,i3,i4,i5,i6,i7])
  all_goals exact hE.trans hE2
 | true =>
  simp (maxSteps:=1000000)(disch:=(first|omega|(simp only [qI,qJ,qK]<;>omega)|exact qL _)) only [go_sem,↓reduceIte,n0,reduceCtorEq,n1,n2,n3,n4,n5,i0,i1,i2,i3,i4,i5,i6,i7]
  repeat ((first|refine qA ?_|apply qB|refine qC ?_|apply qD|apply qE|apply qF|apply qG|apply qH);try simp (maxSteps:=1000000)(disch:=(first|omega|(simp only [qI,qJ,qK]<;>omega)|exact qL _)) only [go_sem,↓reduceIte,n0,reduceCtorEq,n1,n2,n3,n4,n5,i0,i1,i2,i3,i4,i5,i6,i7])
  refine (MaxQ_fn w2).mono ?_
  rintro _ w2m ⟨rfl,FP⟩
  repeat ((first|refine qA ?_|apply qB|refine qC ?_|apply qD|apply qE|apply qF|apply qG|apply qH);try simp (maxSteps:=1000000)(disch:=(first|omega|(simp only [qI,qJ,qK]<;>omega)|exact qL _)) only [go_sem,↓reduceIte,n0,reduceCtorEq,n1,n2,n3,n4,n5,i0,i1,i2,i3,i4,i5,i6,i7])
  refine (cQ_fn w2m).mono ?_
  rintro r3 w3 ⟨⟨vs,rfl,hF0⟩,hE3⟩
  have hF:FldsV AnyB w3 vs fs_Q:=hF0.weaken fun _ _ _=>trivial
  have fF:=SlR.flat hF
  simp (maxSteps:=1000000)(disch:=(first|omega|(simp only [qI,qJ,qK]<;>omega)|exact qL _)) only [go_sem,↓reduceIte,n0,reduceCtorEq,n1,n2,n3,n4,n5,i0,i1,i2,i3,i4,i5,i6,i7]
  refine (version_fn w3 n 10 hn (by decide)).mono ?_
  rintro _ w3v ⟨rfl,rfl⟩
  have hE03:Ext w w3v:=((hE.trans hE2).trans FP).trans hE3
  have hb3:=hE3.blk_some (FP.blk_some (hE2.blk_some hb id) id) id
  have hE4:Ext w3v (wr (w3v.alloc (.cells #[.slice none 0 0,.int .i64 0] 31)) w3v.heap.size 0 [vs,.int .i64 6]):=(Upd.alloc (Upd.refl _ _) _).wr _ _ (.inl (Nat.le_refl _))
  have hb4:blk (wr (w3v.alloc (.cells #[.slice none 0 0,.int .i64 0] 31)) w3v.heap.size 0 [vs,.int .i64 6]) w3v.heap.size=some (#[vs,.int .i64 6],31,(0,0)):=by simp (maxSteps:=1000000)(disch:=(first|omega|(simp only [qI,qJ,qK]<;>omega)|exact qL _)) only [go_sem,↓reduceIte,n0,reduceCtorEq,n1,n2,n3,n4,n5,i0,i1,i2,i3,i4,i5,i6,i7]
  simp (maxSteps:=1000000)(disch:=(first|omega|(simp only [qI,qJ,qK]<;>omega)|exact qL _)) only [go_sem,↓reduceIte,n0,reduceCtorEq,n1,n2,n3,n4,n5,i0,i1,i2,i3,i4,i5,i6,i7,fF]
  generalize (wr (w3v.alloc (.cells #[.slice none 0 0,.int .i64 0] 31)) w3v.heap.size 0 [vs,.int .i64 6])=w4 at *
  have GN:=hE4.blk_some hb3 id
  have hv3:n % 11 < 11:=Nat.mod_lt _ (by omega)
  generalize n % 11=ver at *
  have hs1:=blk_lt hb4
  have hs2:=blk_lt GN
  by_cases hD2:(1000:Int) < (Dd.length:Int)
  ·repeat ((first|refine qA ?_|apply qB|refine qC ?_|apply qD|apply qE|apply qF|apply qG|apply qH);try simp (maxSteps:=1000000)(disch:=(first|omega|(simp only [qI,qJ,qK]<;>omega)|exact qL _)) only [go_sem,↓reduceIte,n0,reduceCtorEq,n1,n2,n3,n4,n5,i0,i1,i2,i3,i4,i5,i6,i7,hD2])
   all_goals exact hE03.trans hE4
  repeat ((first|refine qA ?_|apply qB|refine qC ?_|apply qD|apply qE|apply qF|apply qG|apply qH);try simp (maxSteps:=1000000)(disch:=(first|omega|(simp only [qI,qJ,qK]<;>omega)|exact qL _)) only [go_sem,↓reduceIte,n0,reduceCtorEq,n1,n2,n3,n4,n5,i0,i1,i2,i3,i4,i5,i6,i7,hD2,GN,hb4,cellsAt_five,cellsAt_two])
  have hE04:Ext w w4:=hE03.trans hE4
  have hokF:okF 3 fs_Q=true:=by decide
  have hokM:okM 3 fs_Q=true:=by decide
  have hokR:okR 3 ver (flexB 6 ver) fs_Q=true:=(by decide:∀ v:Fin 11,okR 3 ((v.val:Nat):Int) (flexB 6 ((v.val:Nat):Int)) fs_Q=true) ⟨ver,hv3⟩
  have hpl:(partS 4 fs_Q ver (flexB 6 ver) t).length≤2 ^ 40:=Nat.le_trans (partS_bound ver _ 3 fs_Q N t hokM hsz) (Nat.le_trans (Nat.mul_le_mul_left _ (Nat.succ_le_succ hN)) (by decide))
  refine (Write_fn (ok:=AnyB) (d:=3) fs_Q 6 ver t vs _ w4 (hF.keep (Ext.keeps hE4 _)) hokF ((ht.weaken fun _ _ _=>trivial).keep (Ext.keeps hE04 _)) hsm hpl).mono ?_
  rintro r5 w5 ⟨ho5,hE5⟩
  have hE05:=hE04.trans hE5
  obtain ⟨a5,c5,rfl,_⟩:=ho5.shape
  repeat ((first|refine qA ?_|apply qB|refine qC ?_|apply qD|apply qE|apply qF|apply qG|apply qH);try simp (maxSteps:=1000000)(disch:=(first|omega|(simp only [qI,qJ,qK]<;>omega)|exact qL _)) only [go_sem,↓reduceIte,n0,reduceCtorEq,n1,n2,n3,n4,n5,i0,i1,i2,i3,i4,i5,i6,i7])
  obtain ⟨M,hM⟩:=sizedRQ hsz
  have hokRR:okR 3 ver (flexB 6 ver) fsr_Q=true:=(by decide:∀ v:Fin 11,okR 3 ((v.val:Nat):Int) (flexB 6 ((v.val:Nat):Int)) fsr_Q=true) ⟨ver,hv3⟩
  have hpe:partS (1+3) fsr_Q ver (flexB 6 ver) (rTQ t)=partS 4 fs_Q ver (flexB 6 ver) t:=partRQ 2 ver (flexB 6 ver) t
  have hrd:=(rdP_part ver (flexB 6 ver) 3 fsr_Q M (rTQ t) hokRR hM).1 []
  rw [List.append_nil] at hrd
  refine (BehindQ_fn (d:=1) (ok:=AnyB) (ev:=ev) ver (by omega) (rTQ t) _ _ Dd w5 ((hd.weaken (ok':=AnyB) fun _ _ _=>trivial).keep (Ext.keeps hE05 _)) (by rw [hpe];exact Own.bytes (ok:=AnyB) ho5 fun _ _=>trivial) (hG.updS hE05 id id) hrd (partS_cn ver (flexB 6 ver) 3 fsr_Q (rTQ t) hokRR) (by omega) (by rw [hpe];exact hpl)).mono ?_
  rintro _ w6 ⟨⟨v6,rfl,ho6⟩,hE6⟩
  rw [hpe] at ho6
  have hE06:=hE05.trans hE6
  obtain ⟨a6,c6,rfl,_⟩:=ho6.shape
  repeat (first|simp (maxSteps:=1000000)(disch:=(first|omega|(simp only [qI,qJ,qK]<;>omega)|exact qL _)) only [go_sem,↓reduceIte,n0,reduceCtorEq,n1,n2,n3,n4,n5,i0,i1,i2,i3,i4,i5,i6,i7]|refine qA ?_|apply qB|refine qC ?_|apply qD|apply qE|apply qF|apply qG|apply qH)
  have hE7:Ext w6 (w6.alloc (.cells #[] 5)):=Upd.alloc (Upd.refl _ _) _
  have ho7:Own w6.heap.size (w6.alloc (.cells #[] 5)) 5 1 (.slice (some ⟨w6.heap.size,0,none⟩) 0 0) 0 []:=⟨by simp,.inr ⟨_,0,[],(0,0),rfl,Nat.le_refl _,blk_alloc_new rfl,rfl,thaw_00 _ _,Nat.le_refl _⟩⟩
  have ha6:blk (w6.alloc (.cells #[] 5)) w6.heap.size=some (#[],5,(0,0)):=blk_alloc_new rfl
  generalize w6.alloc (.cells #[] 5)=w7 at *
  have hz6:=hE6.size
  have hz7:=hE7.size
  have KO:=hE05.size
  have hd7:BytesV AnyB w7 _ Dd:=BytesV.keep (hd.weaken (ok':=AnyB) fun _ _ _=>trivial) (Ext.keeps (hE06.trans hE7) _)
  have hb7:BytesV (fun b=>b < w6.heap.size) w7 _ (partS 4 fs_Q ver (flexB 6 ver) t):=BytesV.keep ((Own.bytes (ok:=AnyB) ho5 fun _ _=>trivial).weaken fun b hb _=>by omega) (Ext.keeps (hE6.trans hE7) _)
  have hr7:BytesV (fun b=>b < w6.heap.size) w7 _ (Dd++(partS 4 fs_Q ver (flexB 6 ver) t)):=BytesV.keep ((Own.bytes (ok:=AnyB) ho6 fun _ _=>trivial).weaken fun b hb _=>hb) (Ext.keeps hE7 _)
  refine wp_append ap_22_22 (B:=w6.heap.size) (n:=0) (cs:=[]) (m:=Dd.length) (news:=Dd.map byteV) (v:=.slice (some ⟨w6.heap.size,0,none⟩) 0 0) (u:=.slice da Dd.length dc) (by first|rfl|simp (maxSteps:=1000000)(disch:=(first|omega|(simp only [qI,qJ,qK]<;>omega)|exact qL _)) only [go_sem,↓reduceIte,n0,reduceCtorEq,n1,n2,n3,n4,n5,i0,i1,i2,i3,i4,i5,i6,i7]) (by first|rfl|simp (maxSteps:=1000000)(disch:=(first|omega|(simp only [qI,qJ,qK]<;>omega)|exact qL _)) only [go_sem,↓reduceIte,n0,reduceCtorEq,n1,n2,n3,n4,n5,i0,i1,i2,i3,i4,i5,i6,i7]) ho7 rfl hd7.src (by omega) (by omega) ?_
  intro v8 w8 h8 hU8 hf8
  rw [Nat.zero_add,List.nil_append] at h8
  have hz8:=hU8.size
  have hn7:∀ b,ownB (.slice (some ⟨w6.heap.size,0,none⟩) 0 0) b→b=w6.heap.size:=fun b h=>ownB_row h
  have hE8:Ext w w8:=(hE06.trans hE7).more hU8 fun b hb h=>by have:=hn7 b h;have:=hE06.size;omega
  have hb8:=hb7.keep (hU8.keeps fun b _ hk h=>by have:=hn7 b h;omega)
  have hr8:=hr7.keep (hU8.keeps fun b _ hk h=>by have:=hn7 b h;omega)
  obtain ⟨a8,c8,rfl,_⟩:=h8.shape
  simp (maxSteps:=1000000)(disch:=(first|omega|(simp only [qI,qJ,qK]<;>omega)|exact qL _)) only [go_sem,↓reduceIte,n0,reduceCtorEq,n1,n2,n3,n4,n5,i0,i1,i2,i3,i4,i5,i6,i7]
  refine wp_append ap_22_22 (B:=w6.heap.size) (n:=Dd.length) (cs:=Dd.map byteV) (m:=(partS 4 fs_Q ver (flexB 6 ver) t).length) (news:=(partS 4 fs_Q ver (flexB 6 ver) t).map byteV) (v:=.slice a8 Dd.length c8) (u:=.slice a5 _ c5) (by first|rfl|simp (maxSteps:=1000000)(disch:=(first|omega|(simp only [qI,qJ,qK]<;>omega)|exact qL _)) only [go_sem,↓reduceIte,n0,reduceCtorEq,n1,n2,n3,n4,n5,i0,i1,i2,i3,i4,i5,i6,i7]) (by first|rfl|simp (maxSteps:=1000000)(disch:=(first|omega|(simp only [qI,qJ,qK]<;>omega)|exact qL _)) only [go_sem,↓reduceIte,n0,reduceCtorEq,n1,n2,n3,n4,n5,i0,i1,i2,i3,i4,i5,i6,i7]) h8 (flat_bytes _) hb8.src (by omega) (by omega) ?_
  intro v9 w9 h9 hU9 hf9
  rw [← List.map_append,← List.length_append] at h9
  have hn8:∀ b,ownB (.slice a8 Dd.length c8) b→w6.heap.size≤b:=fun b h=>by
   rcases hf8 b h with h|h
   ·have:=hn7 b h;omega
   ·omega
  have hE9:Ext w w9:=hE8.more hU9 fun b hb h=>by have:=hn8 b h;have:=hE06.size;omega
  have hr9:=hr8.keep (hU9.keeps fun b _ hk h=>by have:=hn8 b h;omega)
  obtain ⟨a9,c9,rfl,_⟩:=h9.shape
  simp (maxSteps:=1000000)(disch:=(first|omega|(simp only [qI,qJ,qK]<;>omega)|exact qL _)) only [go_sem,↓reduceIte,n0,reduceCtorEq,n1,n2,n3,n4,n5,i0,i1,i2,i3,i4,i5,i6,i7]
  refine (Same_fn (ok:=AnyB) (Dd++(partS 4 fs_Q ver (flexB 6 ver) t)) (Dd++(partS 4 fs_Q ver (flexB 6 ver) t)) _ _ w9 (hr9.weaken fun _ _ _=>trivial) (Own.bytes h9 fun _ _=>trivial) (by rw [List.length_append];omega)).mono ?_
  rintro _ w10 ⟨rfl,I9⟩
  repeat (first|simp (maxSteps:=1000000)(disch:=(first|omega|(simp only [qI,qJ,qK]<;>omega)|exact qL _)) only [go_sem,↓reduceIte,n0,reduceCtorEq,n1,n2,n3,n4,n5,i0,i1,i2,i3,i4,i5,i6,i7]|refine qA ?_|apply qB|refine qC ?_|apply qD|apply qE|apply qF|apply qG|apply qH)
  all_goals exact hE9.trans I9

end Ms

