/- A part of the proof: see the last text. -/
import Derived.Test.YtfabfglflkggeaaGreatDoorC07
import Derived.Test.YtfabfglflkggeaaGreatDoorC10
import Derived.Test.YtfabfglflkggeaaGreatDoorOffsetFetchRequestP0
set_option linter.unusedSimpArgs false
set_option linter.unusedVariables false
namespace Ms
open Go.World renaming size_alloc → qI
open Ms renaming size_wr → qJ,size_drew → qK,not_noB → qL
open W renaming seqF → qA,seq → qB,regF → qC,condK → qD,block → qE,skip → qF,ret → qG,exit → qH
open Nat renaming reduceEqDiff → n0,reduceAdd → n1,reduceMul → n2,reduceSub → n3,reduceLT → n4,reduceLeDiff → n5
open Int renaming reduceEq → i0,reduceLT → i1,reduceLE → i2,reduceNeg → i3,reduceAdd → i4,reduceSub → i5,reduceMul → i6,reduceToNat → i7
set_option maxRecDepth 8000
open Go Go.Proofs Go.Shelf
attribute [local congr] W_congr WPsq_congr WPp_congr optK_congr addrK_congr intK_congr boolK_congr sliceK_congr tupleK_congr funcK_congr Fn_congr rawK_congr takeK_congr stepK_congr convK_congr aggK_congr

set_option maxHeartbeats 4000000 in
theorem appQ_4 {d B:Nat} {okM:Blocks} {ver:Int} (hlo:8≤ver) (hhi:ver≤8) (t:Tree) (cells:List Value) (v:Value) (s:List UInt8) (w:World) {vb:Nat} (ho:OwnBy 5 B w v s) (hB:B≤w.heap.size) (hvb:blk w vb=some ((.int .i16 ver :: cells).toArray,63,(0,0)))
  (hR:RepS true (d+3) fsr_Q okM w t cells) (hfit:FitW ver (d+3) fsr_Q t) (hd:∀ b,b < w.heap.size→okM b→¬ ownB v b) (hdv:¬ ownB v vb) (hlen:s.length+(partS (d+3) fsr_Q ver true t).length≤2 ^ 41) :
  Fn Tryz.prog 19 #[.pointer (some ⟨vb,0,none⟩),v] w fun r w'=>AppR 5 B w v s (partS (d+3) fsr_Q ver true t) r w':=by
 obtain ⟨⟨g_0,g_1,g_2,g_3,-⟩,hfu⟩:=hfit
 replace g_0:hasS fQ_0 ver=true→FitWF (FitW ver (d+2)) ver fQ_0 (t.at 0):=g_0
 have hh_0:hasS fQ_0 ver=false:=hasS_f (by show ver < 0∨(0≤(7:Int)∧(7:Int) < ver);omega)
 clear g_0
 replace g_1:hasS fQ_1 ver=true→FitWF (FitW ver (d+2)) ver fQ_1 (t.at 1):=g_1
 have hh_1:hasS fQ_1 ver=false:=hasS_f (by show ver < 0∨(0≤(7:Int)∧(7:Int) < ver);omega)
 clear g_1
 replace g_2:hasS frQ_2 ver=true→FitWF (FitW ver (d+2)) ver frQ_2 (t.at 2):=g_2
 have hh_2:hasS frQ_2 ver=true:=hasS_t (by show (8:Int)≤ver;omega) (by show (-1:Int) < 0∨ver≤(-1:Int);omega)
 replace g_2:=g_2 hh_2
 replace g_3:hasS fQ_3 ver=true→FitWF (FitW ver (d+2)) ver fQ_3 (t.at 3):=g_3
 have hh_3:hasS fQ_3 ver=true:=hasS_t (by show (7:Int)≤ver;omega) (by show (-1:Int) < 0∨ver≤(-1:Int);omega)
 replace g_3:=g_3 hh_3
 obtain ⟨cs,q,hcs,hL,hT⟩:=hR.inv
 obtain ⟨c_0,e_0,rfl,h_0,c_1,e_1,rfl,h_1,c_2,e_2,rfl,h_2,c_3,e_3,rfl,h_3,rfl⟩:=hL
 replace h_0:RepF (RepS true (d+2)) (szS true (d+2)) fQ_0 okM w (t.at 0) c_0:=h_0
 replace h_1:RepF (RepS true (d+2)) (szS true (d+2)) fQ_1 okM w (t.at 1) c_1:=h_1
 replace h_2:RepF (RepS true (d+2)) (szS true (d+2)) frQ_2 okM w (t.at 2) c_2:=h_2
 replace h_3:RepF (RepS true (d+2)) (szS true (d+2)) fQ_3 okM w (t.at 3) c_3:=h_3
 obtain rfl:=(RepF_text rfl (by decide)).1 h_0
 obtain ⟨p_1,rfl⟩:=RepF_any (by decide) h_1
 obtain ⟨p_2,rfl,hs_2⟩:=RepF_listW g_2 rfl (by decide) h_2
 obtain ⟨ab_2,ac_2,rfl,_⟩:=SlR.shape hs_2
 have hgl_2:=g_2.list rfl
 have hll_2:=hgl_2.1
 obtain rfl:=(RepF_num (by decide)).1 h_3
 obtain ⟨qm,rfl⟩:=hT.shape
 have hv:blk w vb=some (#[.int .i16 ver,strV (t.at 0).s,p_1,.slice ab_2 (t.at 2).l.length ac_2,.bool (decide ((t.at 3).n % 2=1)),.map qm],63,(0,0)):=by rw [hvb,hcs];rfl
 clear hvb hcs
 obtain ⟨XL_2,hXL_2⟩:∃ X,X=uvarS ((t.at 2).l.length+1):=⟨_,rfl⟩
 obtain ⟨XE_2,hXE_2⟩:∃ X,X=(t.at 2).l.flatMap (fun x=>partS (d+2) fsr_X1 ver true x):=⟨_,rfl⟩
 obtain ⟨X_3,hXX_3⟩:∃ X,X=[if decide ((t.at 3).n % 2=1)=true then (1:UInt8) else 0]:=⟨_,rfl⟩
 obtain ⟨XU,hXU⟩:∃ X,X=uvarS t.u.length:=⟨_,rfl⟩
 obtain ⟨XT,hXT⟩:∃ X,X=t.u.flatMap oneTag:=⟨_,rfl⟩
 have hP:partS (d+3) fsr_Q ver true t=((XL_2++XE_2)++(X_3++[]))++(XU++XT):=by rw [hXU,hXT];exact partS_yes rfl hfu (plainL_not hh_0 (plainL_not hh_1 (plainL_has (by decide) hh_2 ((fieldS_list_t (g:=(fun x=>partS (d+2) fsr_X1 ver true x)) g_2 rfl (by decide) (fun x _=>valueS_part)).trans (by rw [hXL_2,hXE_2])) (plainL_has (by decide) hh_3 ((fieldS_bool rfl).trans hXX_3.symm) rfl))))
 rw [hP] at hlen
 simp only [List.length_append,List.length_nil] at hlen
 have hdK:∀ {r:Value} {w':World} {add:List UInt8},AppR 5 B w v s add r w'→∀ b,b < w'.heap.size→OkS okM w.heap.size b→¬ ownB r b:=fun h b _ hk ho=>(h.frame b ho).elim (hd b hk.2 hk.1) (fun h=>by have:=hk.2;omega)
 have ownK:∀ {r:Value} {w':World} {add:List UInt8} {b:Nat},AppR 5 B w v s add r w'→b < w.heap.size→¬ ownB v b→¬ ownB r b:=fun h hb hn ho=>(h.frame _ ho).elim hn (fun h=>by omega)
 have ha0:AppR 5 B w v s [] v w:=AppR.refl ho
 obtain ⟨w0,hw0⟩:∃ w0,w0=w:=⟨_,rfl⟩
 have hB0:=hB
 have hv_0:=hv
 refine fn_of_W Tryz.func19 rfl Tryz.results19 Tryz.ntmps19 rfl ?_
 repeat ((first|refine qA ?_|apply qB|refine qC ?_|apply qD|apply qE|apply qF|apply qG|apply qH);try simp (disch:=omega) only [go_sem,↓reduceIte,n0,reduceCtorEq,hv_0])
 refine (AppendCompactArrayLen_fn _ _ _ ha0.own hB0 (t.at 2).l.length hll_2 (by simp only [List.length_append,List.length_nil];omega)).mono ?_
 rintro r1 w1 hc1
 rw [← hXL_2] at hc1
 have ha1:=ha0.trans hc1
 have hB1:B≤w1.heap.size:=Nat.le_trans hB ha1.upd.size
 have hv_1:=ha1.upd.blk_some hv hdv
 repeat ((first|refine qA ?_|apply qB|refine qC ?_|apply qD|apply qE|apply qF|apply qG|apply qH);try simp (disch:=omega) only [go_sem,↓reduceIte,n0,reduceCtorEq,hv_1])
 have z1:=ha1
 refine W.exitJ 4 (fun ρ w'=>∃ r,ρ 1=r∧ρ 0 = .pointer (some ⟨vb,0,none⟩)∧ρ 5 = .int .i16 ver∧ρ 6 = .bool true∧AppR 5 B w v s (([]++XL_2)++XE_2) r w')
  (W.loop (fun ρ w'=>∃ (j:Nat) (r:Value),j≤(t.at 2).l.length∧ρ 166 = .int .i64 j∧ρ 165 = .int .i64 (t.at 2).l.length∧ρ 15 = .slice ab_2 (t.at 2).l.length ac_2∧ρ 1=r∧ρ 0 = .pointer (some ⟨vb,0,none⟩)∧ρ 5 = .int .i16 ver∧ρ 6 = .bool true∧AppR 5 B w v s (([]++XL_2)++((t.at 2).l.take j).flatMap (fun x=>partS (d+2) fsr_X1 ver true x)) r w')
   (fun ρ _=>(t.at 2).l.length - (RowKit.intOf (ρ 166)).toNat) ?_ ?_) ?_
 ·refine ⟨0,_,Nat.zero_le _,?_,?_,?_,?_,?_,?_,?_,ha1.eqs (by rw [List.take_zero,List.flatMap_nil,List.append_nil])⟩<;>simp (disch:=omega) only [go_sem,↓reduceIte,n0,reduceCtorEq]
  all_goals rfl
 ·rintro ρ w2 ⟨j1,r2,hj1,hI1,hN1,hS1,eH,eG,dJ,dI,ha2⟩
  have hB2:B≤w2.heap.size:=Nat.le_trans hB ha2.upd.size
  have hv_2:=ha2.upd.blk_some hv hdv
  by_cases eJ:j1 < (t.at 2).l.length
  ·obtain ⟨_,b1,o1,x1,ce1,hb1,hok1,hx1,pE,zG,zE,hq1,iF⟩:=SlR.get (size:=5) (by decide) hs_2 eJ
   subst hb1
   have lG:(t.at 2).l.take (j1+1)=(t.at 2).l.take j1++[(t.at 2).l[j1]]:=List.take_succ_eq_append_getElem eJ
   have fI:=take_flatMap_len (t.at 2).l (fun x=>partS (d+2) fsr_X1 ver true x) (j1+1)
   rw [← hXE_2,lG,List.flatMap_append,List.flatMap_cons,List.flatMap_nil,List.append_nil] at fI
   have pI:=hgl_2.2 _ (List.getElem_mem eJ)
   generalize (t.at 2).l[j1] = y1 at *
   have cJ:=hd b1 pE hok1
   obtain ⟨T1,l8⟩:∃ T,T=((t.at 2).l.take j1).flatMap (fun x=>partS (d+2) fsr_X1 ver true x):=⟨_,rfl⟩
   rw [← l8] at ha2 fI
   have CG:=ha2.upd.blk_some hx1 cJ
   replace iF:RepS true (d+2) fsr_X1 okM w y1 ce1:=Rep1_part.1 iF
   have pH:FitW ver (d+2) fsr_X1 y1:=pI.2 rfl
   obtain ⟨⟨ge1_0,ge1_1,ge1_2,ge1_3,-⟩,fT⟩:=pH
   replace ge1_0:hasS fX1_0 ver=true→FitWF (FitW ver (d+1)) ver fX1_0 (y1.at 0):=ge1_0
   have lI:hasS fX1_0 ver=true:=hasS_t (by show (0:Int)≤ver;omega) (by show (-1:Int) < 0∨ver≤(-1:Int);omega)
   replace ge1_0:=ge1_0 lI
   replace ge1_1:hasS fX1_1 ver=true→FitWF (FitW ver (d+1)) ver fX1_1 (y1.at 1):=ge1_1
   have lO:hasS fX1_1 ver=false:=hasS_f (by show ver < 9∨(0≤(-1:Int)∧(-1:Int) < ver);omega)
   clear ge1_1
   replace ge1_2:hasS fX1_2 ver=true→FitWF (FitW ver (d+1)) ver fX1_2 (y1.at 2):=ge1_2
   have xN:hasS fX1_2 ver=false:=hasS_f (by show ver < 9∨(0≤(-1:Int)∧(-1:Int) < ver);omega)
   clear ge1_2
   replace ge1_3:hasS frX1_3 ver=true→FitWF (FitW ver (d+1)) ver frX1_3 (y1.at 3):=ge1_3
   have vI:hasS frX1_3 ver=true:=hasS_t (by show (0:Int)≤ver;omega) (by show (-1:Int) < 0∨ver≤(-1:Int);omega)
   replace ge1_3:=ge1_3 vI
   obtain ⟨cse1,qe1,pG,oZ,jS⟩:=iF.inv
   obtain ⟨ce1_0,ee1_0,rfl,iG,ce1_1,ee1_1,rfl,iH,ce1_2,ee1_2,rfl,rD,ce1_3,ee1_3,rfl,rE,rfl⟩:=oZ
   replace iG:RepF (RepS true (d+1)) (szS true (d+1)) fX1_0 okM w (y1.at 0) ce1_0:=iG
   replace iH:RepF (RepS true (d+1)) (szS true (d+1)) fX1_1 okM w (y1.at 1) ce1_1:=iH
   replace rD:RepF (RepS true (d+1)) (szS true (d+1)) fX1_2 okM w (y1.at 2) ce1_2:=rD
   replace rE:RepF (RepS true (d+1)) (szS true (d+1)) frX1_3 okM w (y1.at 3) ce1_3:=rE
   obtain rfl:=(RepF_text rfl (by decide)).1 iG
   obtain ⟨pe1_1,rfl,DL⟩:=(RepF_ptr rfl (by decide)).1 iH
   obtain rfl:=(RepF_num (by decide)).1 rD
   obtain ⟨pe1_3,Le1_3,rfl,uD,wC,BU⟩:=RepF_listN ge1_3 rfl (by decide) rE
   obtain ⟨abe1_3,ace1_3,rfl,_⟩:=SlR.shape wC
   have eE:=BU _ _ _ rfl
   have vG:=ge1_3.listL rfl uD
   have BR:=vG.1
   obtain ⟨qme1,rfl⟩:=jS.shape
   subst pG
   have cO:x1.1[o1+j1 * 5]? = some (strV (y1.at 0).s):=hq1 0 (by decide)
   have cP:x1.1[o1+(j1 * 5+1)]? = some (pe1_1):=hq1 1 (by decide)
   have cM:x1.1[o1+(j1 * 5+2)]? = some (.int .i32 (IntKind.i32.wrap (y1.at 2).n)):=hq1 2 (by decide)
   have eF:x1.1[o1+(j1 * 5+3)]? = some (.slice abe1_3 Le1_3.length ace1_3):=hq1 3 (by decide)
   have dN:x1.1[o1+(j1 * 5+4)]? = some (.map qme1):=hq1 4 (by decide)
   obtain ⟨Xe1_0,lE⟩:∃ X,X=uvarS ((y1.at 0).s.length+1)++(y1.at 0).s:=⟨_,rfl⟩
   obtain ⟨XLe1_3,uV⟩:∃ X,X=countedS true (nullS frX1_3 ver (y1.at 3)) Le1_3.length 4:=⟨_,rfl⟩
   obtain ⟨XEe1_3,qY⟩:∃ X,X=Le1_3.flatMap (fun x=>partS (d+1) fs_X0 ver true x):=⟨_,rfl⟩
   obtain ⟨XUe1,o9⟩:∃ X,X=uvarS y1.u.length:=⟨_,rfl⟩
   obtain ⟨XTe1,o8⟩:∃ X,X=y1.u.flatMap oneTag:=⟨_,rfl⟩
   have l7:partS (d+2) fsr_X1 ver true y1=(Xe1_0++((XLe1_3++XEe1_3)++[]))++(XUe1++XTe1):=by rw [o9,o8];exact partS_yes rfl fT (plainL_has (by decide) lI ((fieldS_text_t ge1_0 rfl (by decide)).trans lE.symm) (plainL_not lO (plainL_not xN (plainL_has (by decide) vI ((fieldS_listN (g:=(fun x=>partS (d+1) fs_X0 ver true x)) ge1_3 rfl uD (fun x _=>valueS_part)).trans (by rw [uV,qY])) rfl))))
   rw [l7] at fI
   simp only [List.length_append,List.length_nil] at fI
   repeat ((first|refine qA ?_|apply qB|refine qC ?_|apply qD|apply qE|apply qF|apply qG|apply qH);try simp (disch:=omega) only [go_sem,↓reduceIte,n0,reduceCtorEq,hv_2,CG,cO,cP,cM,eF,dN,eE,eH,eG,dJ,dI,hI1,hN1,hS1])
   refine (AppendCompactString_fn _ _ _ ha2.own hB2 (y1.at 0).s (ge1_0.text (.inl rfl)) (by simp only [List.length_append,List.length_nil];omega)).mono ?_
   rintro r3 w3 hc3
   rw [← lE] at hc3
   have ha3:=ha2.trans hc3
   have hB3:B≤w3.heap.size:=Nat.le_trans hB ha3.upd.size
   have hv_3:=ha3.upd.blk_some hv hdv
   have pT:=ha3.upd.blk_some hx1 cJ
   repeat ((first|refine qA ?_|apply qB|refine qC ?_|apply qD|apply qE|apply qF|apply qG|apply qH);try simp (disch:=omega) only [go_sem,↓reduceIte,n0,reduceCtorEq,hv_3,pT,cO,cP,cM,eF,dN,eE,eH,eG,dJ,dI,hI1,hN1,hS1])
   refine (AppendCompactNullableArrayLen_fn _ _ _ ha3.own hB3 Le1_3.length BR (nullS frX1_3 ver (y1.at 3)) (by simp only [List.length_append,List.length_nil];omega)).mono ?_
   rintro r4 w4 hc4
   rw [← uV] at hc4
   have ha4:=ha3.trans hc4
   have hB4:B≤w4.heap.size:=Nat.le_trans hB ha4.upd.size
   have hv_4:=ha4.upd.blk_some hv hdv
   have iD:=ha4.upd.blk_some hx1 cJ
   repeat ((first|refine qA ?_|apply qB|refine qC ?_|apply qD|apply qE|apply qF|apply qG|apply qH);try simp (disch:=omega) only [go_sem,↓reduceIte,n0,reduceCtorEq,hv_4,iD,cO,cP,cM,eF,dN,eE,eH,eG,dJ,dI,hI1,hN1,hS1])
   have z2:=ha4
   refine W.exitJ 6 (fun ρ w'=>∃ r,ρ 1=r∧ρ 0 = .pointer (some ⟨vb,0,none⟩)∧ρ 5 = .int .i16 ver∧ρ 6 = .bool true∧ρ 166 = .int .i64 j1∧ρ 165 = .int .i64 (t.at 2).l.length∧ρ 15 = .slice (some ⟨b1,o1,none⟩) (t.at 2).l.length ac_2∧ρ 17 = .pointer (some ⟨b1,o1+j1 * 5,none⟩)∧AppR 5 B w v s (([]++XL_2++T1++Xe1_0++XLe1_3)++XEe1_3) r w')
    (W.loop (fun ρ w'=>∃ (j:Nat) (r:Value),j≤Le1_3.length∧ρ 224 = .int .i64 j∧ρ 223 = .int .i64 Le1_3.length∧ρ 21 = .slice abe1_3 Le1_3.length ace1_3∧ρ 1=r∧ρ 0 = .pointer (some ⟨vb,0,none⟩)∧ρ 5 = .int .i16 ver∧ρ 6 = .bool true∧ρ 166 = .int .i64 j1∧ρ 165 = .int .i64 (t.at 2).l.length∧ρ 15 = .slice (some ⟨b1,o1,none⟩) (t.at 2).l.length ac_2∧ρ 17 = .pointer (some ⟨b1,o1+j1 * 5,none⟩)∧AppR 5 B w v s (([]++XL_2++T1++Xe1_0++XLe1_3)++(Le1_3.take j).flatMap (fun x=>partS (d+1) fs_X0 ver true x)) r w')
     (fun ρ _=>Le1_3.length - (RowKit.intOf (ρ 224)).toNat) ?_ ?_) ?_
   ·refine ⟨0,_,Nat.zero_le _,?_,?_,?_,?_,?_,?_,?_,?_,?_,?_,?_,ha4.eqs (by rw [List.take_zero,List.flatMap_nil,List.append_nil])⟩<;>simp (disch:=omega) only [go_sem,↓reduceIte,n0,reduceCtorEq,eH,eG,dJ,dI,hI1,hN1,hS1]
    all_goals rfl
   ·rintro ρ w5 ⟨j2,r5,hj2,hI2,hN2,hS2,fN,fO,fP,fQ,mI,mH,mG,mJ,ha5⟩
    have hB5:B≤w5.heap.size:=Nat.le_trans hB ha5.upd.size
    have hv_5:=ha5.upd.blk_some hv hdv
    have kU:=ha5.upd.blk_some hx1 cJ
    by_cases hlt2:j2 < Le1_3.length
    ·obtain ⟨_,b2,o2,x2,ce2,hb2,hok2,hx2,pF,zH,zF,hq2,jM⟩:=SlR.get (size:=19) (by decide) wC hlt2
     subst hb2
     have lH:Le1_3.take (j2+1)=Le1_3.take j2++[Le1_3[j2]]:=List.take_succ_eq_append_getElem hlt2
     have eX:=take_flatMap_len Le1_3 (fun x=>partS (d+1) fs_X0 ver true x) (j2+1)
     rw [← qY,lH,List.flatMap_append,List.flatMap_cons,List.flatMap_nil,List.append_nil] at eX
     have tW:=vG.2 _ (List.getElem_mem hlt2)
     generalize Le1_3[j2] = y2 at *
     have eI:=hd b2 pF hok2
     obtain ⟨T2,l9⟩:∃ T,T=(Le1_3.take j2).flatMap (fun x=>partS (d+1) fs_X0 ver true x):=⟨_,rfl⟩
     rw [← l9] at ha5 eX
     have K5:=ha5.upd.blk_some hx2 eI
     replace jM:RepS true (d+1) fs_X0 okM w y2 ce2:=Rep1_part.1 jM
     have B7:FitW ver (d+1) fs_X0 y2:=tW.2 rfl
     obtain ⟨⟨ge2_0,ge2_1,ge2_2,-⟩,mE⟩:=B7
     replace ge2_0:hasS fX0_0 ver=true→FitWF (FitW ver d) ver fX0_0 (y2.at 0):=ge2_0
     have mR:hasS fX0_0 ver=true:=hasS_t (by show (8:Int)≤ver;omega) (by show (9:Int) < 0∨ver≤(9:Int);omega)
     replace ge2_0:=ge2_0 mR
     replace ge2_1:hasS fX0_1 ver=true→FitWF (FitW ver d) ver fX0_1 (y2.at 1):=ge2_1
     have mZ:hasS fX0_1 ver=false:=hasS_f (by show ver < 10∨(0≤(-1:Int)∧(-1:Int) < ver);omega)
     clear ge2_1
     replace ge2_2:hasS fX0_2 ver=true→FitWF (FitW ver d) ver fX0_2 (y2.at 2):=ge2_2
     have mF:hasS fX0_2 ver=true:=hasS_t (by show (0:Int)≤ver;omega) (by show (-1:Int) < 0∨ver≤(-1:Int);omega)
     replace ge2_2:=ge2_2 mF
     obtain ⟨cse2,qe2,B6,zZ,qU⟩:=jM.inv
     obtain ⟨ce2_0,ee2_0,rfl,rF,ce2_1,ee2_1,rfl,rG,ce2_2,ee2_2,rfl,rH,rfl⟩:=zZ
     replace rF:RepF (RepS true d) (szS true d) fX0_0 okM w (y2.at 0) ce2_0:=rF
     replace rG:RepF (RepS true d) (szS true d) fX0_1 okM w (y2.at 1) ce2_1:=rG
     replace rH:RepF (RepS true d) (szS true d) fX0_2 okM w (y2.at 2) ce2_2:=rH
     obtain rfl:=(RepF_text rfl (by decide)).1 rF
     obtain rfl:=(RepF_uuid rfl).1 rG
     have CC:((uuidS (y2.at 1).s).map byteV).length=16:=by rw [List.length_map,uuidS_len]
     have vF:=flat_bytes (uuidS (y2.at 1).s)
     generalize F1:(uuidS (y2.at 1).s).map byteV=Ze2_1 at *
     obtain ⟨ze2_1_0,ze2_1_1,ze2_1_2,ze2_1_3,ze2_1_4,ze2_1_5,ze2_1_6,ze2_1_7,ze2_1_8,ze2_1_9,ze2_1_10,ze2_1_11,ze2_1_12,ze2_1_13,ze2_1_14,ze2_1_15,rfl⟩:=list16 CC
     simp only [List.all_cons,List.all_nil,Bool.and_true,Bool.and_eq_true] at vF
     obtain ⟨fze2_1_0,fze2_1_1,fze2_1_2,fze2_1_3,fze2_1_4,fze2_1_5,fze2_1_6,fze2_1_7,fze2_1_8,fze2_1_9,fze2_1_10,fze2_1_11,fze2_1_12,fze2_1_13,fze2_1_14,fze2_1_15⟩:=vF
     obtain ⟨pe2_2,rfl,wD⟩:=RepF_listW ge2_2 rfl (by decide) rH
     obtain ⟨abe2_2,ace2_2,rfl,_⟩:=SlR.shape wD
     have vH:=ge2_2.list rfl
     have BS:=vH.1
     obtain ⟨qme2,rfl⟩:=qU.shape
     subst B6
     have fV:x2.1[o2+j2 * 19]? = some (strV (y2.at 0).s):=hq2 0 (by decide)
     have jT:x2.1[o2+(j2 * 19+1)]? = some (ze2_1_0):=hq2 1 (by decide)
     have kA:x2.1[o2+(j2 * 19+2)]? = some (ze2_1_1):=hq2 2 (by decide)
     have kB:x2.1[o2+(j2 * 19+3)]? = some (ze2_1_2):=hq2 3 (by decide)
     have kC:x2.1[o2+(j2 * 19+4)]? = some (ze2_1_3):=hq2 4 (by decide)
     have kD:x2.1[o2+(j2 * 19+5)]? = some (ze2_1_4):=hq2 5 (by decide)
     have kE:x2.1[o2+(j2 * 19+6)]? = some (ze2_1_5):=hq2 6 (by decide)
     have kF:x2.1[o2+(j2 * 19+7)]? = some (ze2_1_6):=hq2 7 (by decide)
     have kG:x2.1[o2+(j2 * 19+8)]? = some (ze2_1_7):=hq2 8 (by decide)
     have kH:x2.1[o2+(j2 * 19+9)]? = some (ze2_1_8):=hq2 9 (by decide)
     have jU:x2.1[o2+(j2 * 19+10)]? = some (ze2_1_9):=hq2 10 (by decide)
     have jV:x2.1[o2+(j2 * 19+11)]? = some (ze2_1_10):=hq2 11 (by decide)
     have jW:x2.1[o2+(j2 * 19+12)]? = some (ze2_1_11):=hq2 12 (by decide)
     have jX:x2.1[o2+(j2 * 19+13)]? = some (ze2_1_12):=hq2 13 (by decide)
     have jY:x2.1[o2+(j2 * 19+14)]? = some (ze2_1_13):=hq2 14 (by decide)
     have jZ:x2.1[o2+(j2 * 19+15)]? = some (ze2_1_14):=hq2 15 (by decide)
     have k7:x2.1[o2+(j2 * 19+16)]? = some (ze2_1_15):=hq2 16 (by decide)
     have k9:x2.1[o2+(j2 * 19+17)]? = some (.slice abe2_2 (y2.at 2).l.length ace2_2):=hq2 17 (by decide)
     have gI:x2.1[o2+(j2 * 19+18)]? = some (.map qme2):=hq2 18 (by decide)
     have kQ:cellsAt x2.1 (o2+(j2 * 19+1)) 16=some (.agg #[ze2_1_0,ze2_1_1,ze2_1_2,ze2_1_3,ze2_1_4,ze2_1_5,ze2_1_6,ze2_1_7,ze2_1_8,ze2_1_9,ze2_1_10,ze2_1_11,ze2_1_12,ze2_1_13,ze2_1_14,ze2_1_15]):=by
      refine cellsAt_of (l:=[ze2_1_0,ze2_1_1,ze2_1_2,ze2_1_3,ze2_1_4,ze2_1_5,ze2_1_6,ze2_1_7,ze2_1_8,ze2_1_9,ze2_1_10,ze2_1_11,ze2_1_12,ze2_1_13,ze2_1_14,ze2_1_15]) (fun j hj => ?_) rfl (by omega)
      rw [show o2+(j2 * 19+1)+j=o2+(j2 * 19+(1+j)) by omega]
      exact (hq2 (1+j) (by omega)).trans (get_mid (pre:=[strV (y2.at 0).s]) (xs:=[ze2_1_0,ze2_1_1,ze2_1_2,ze2_1_3,ze2_1_4,ze2_1_5,ze2_1_6,ze2_1_7,ze2_1_8,ze2_1_9,ze2_1_10,ze2_1_11,ze2_1_12,ze2_1_13,ze2_1_14,ze2_1_15]) (post:=[.slice abe2_2 (y2.at 2).l.length ace2_2,.map qme2]) hj)
     obtain ⟨Xe2_0,AL⟩:∃ X,X=uvarS ((y2.at 0).s.length+1)++(y2.at 0).s:=⟨_,rfl⟩
     obtain ⟨XLe2_2,uW⟩:∃ X,X=uvarS ((y2.at 2).l.length+1):=⟨_,rfl⟩
     obtain ⟨XEe2_2,qZ⟩:∃ X,X=(y2.at 2).l.flatMap (fun x:Tree=>fixedS x.n 4):=⟨_,rfl⟩
     obtain ⟨XUe2,uY⟩:∃ X,X=uvarS y2.u.length:=⟨_,rfl⟩
     obtain ⟨XTe2,uX⟩:∃ X,X=y2.u.flatMap oneTag:=⟨_,rfl⟩
     have uE:partS (d+1) fs_X0 ver true y2=(Xe2_0++((XLe2_2++XEe2_2)++[]))++(XUe2++XTe2):=by rw [uY,uX];exact partS_yes rfl mE (plainL_has (by decide) mR ((fieldS_text_t ge2_0 rfl (by decide)).trans AL.symm) (plainL_not mZ (plainL_has (by decide) mF ((fieldS_list_t (g:=(fun x:Tree=>fixedS x.n 4)) ge2_2 rfl (by decide) (fun x _=>valueS_num 3 (by decide))).trans (by rw [uW,qZ])) rfl)))
     rw [uE] at eX
     simp only [List.length_append,List.length_nil] at eX
     repeat ((first|refine qA ?_|apply qB|refine qC ?_|apply qD|apply qE|apply qF|apply qG|apply qH);try simp (disch:=omega) only [go_sem,↓reduceIte,n0,reduceCtorEq,hv_5,kU,K5,cO,cP,cM,eF,dN,eE,fV,jT,kA,kB,kC,kD,kE,kF,kG,kH,jU,jV,jW,jX,jY,jZ,k7,k9,gI,fze2_1_0,fze2_1_1,fze2_1_2,fze2_1_3,fze2_1_4,fze2_1_5,fze2_1_6,fze2_1_7,fze2_1_8,fze2_1_9,fze2_1_10,fze2_1_11,fze2_1_12,fze2_1_13,fze2_1_14,fze2_1_15,kQ,fN,fO,fP,fQ,mI,mH,mG,mJ,hI2,hN2,hS2])
     refine (AppendCompactString_fn _ _ _ ha5.own hB5 (y2.at 0).s (ge2_0.text (.inl rfl)) (by simp only [List.length_append,List.length_nil];omega)).mono ?_
     rintro r6 w6 hc6
     rw [← AL] at hc6
     have ha6:=ha5.trans hc6
     have hB6:B≤w6.heap.size:=Nat.le_trans hB ha6.upd.size
     have hv_6:=ha6.upd.blk_some hv hdv
     have kV:=ha6.upd.blk_some hx1 cJ
     have u5:=ha6.upd.blk_some hx2 eI
     repeat ((first|refine qA ?_|apply qB|refine qC ?_|apply qD|apply qE|apply qF|apply qG|apply qH);try simp (disch:=omega) only [go_sem,↓reduceIte,n0,reduceCtorEq,hv_6,kV,u5,cO,cP,cM,eF,dN,eE,fV,jT,kA,kB,kC,kD,kE,kF,kG,kH,jU,jV,jW,jX,jY,jZ,k7,k9,gI,fze2_1_0,fze2_1_1,fze2_1_2,fze2_1_3,fze2_1_4,fze2_1_5,fze2_1_6,fze2_1_7,fze2_1_8,fze2_1_9,fze2_1_10,fze2_1_11,fze2_1_12,fze2_1_13,fze2_1_14,fze2_1_15,kQ,fN,fO,fP,fQ,mI,mH,mG,mJ,hI2,hN2,hS2])
     refine (AppendCompactArrayLen_fn _ _ _ ha6.own hB6 (y2.at 2).l.length BS (by simp only [List.length_append,List.length_nil];omega)).mono ?_
     rintro r7 w7 hc7
     rw [← uW] at hc7
     have ha7:=ha6.trans hc7
     have hB7:B≤w7.heap.size:=Nat.le_trans hB ha7.upd.size
     have hv_7:=ha7.upd.blk_some hv hdv
     have eY:=ha7.upd.blk_some hx1 cJ
     have u6:=ha7.upd.blk_some hx2 eI
     repeat ((first|refine qA ?_|apply qB|refine qC ?_|apply qD|apply qE|apply qF|apply qG|apply qH);try simp (disch:=omega) only [go_sem,↓reduceIte,n0,reduceCtorEq,hv_7,eY,u6,cO,cP,cM,eF,dN,eE,fV,jT,kA,kB,kC,kD,kE,kF,kG,kH,jU,jV,jW,jX,jY,jZ,k7,k9,gI,fze2_1_0,fze2_1_1,fze2_1_2,fze2_1_3,fze2_1_4,fze2_1_5,fze2_1_6,fze2_1_7,fze2_1_8,fze2_1_9,fze2_1_10,fze2_1_11,fze2_1_12,fze2_1_13,fze2_1_14,fze2_1_15,kQ,fN,fO,fP,fQ,mI,mH,mG,mJ,hI2,hN2,hS2])
     have GM:=ha7
     refine W.exitJ 8 (fun ρ w'=>∃ r,ρ 1=r∧ρ 0 = .pointer (some ⟨vb,0,none⟩)∧ρ 5 = .int .i16 ver∧ρ 6 = .bool true∧ρ 166 = .int .i64 j1∧ρ 165 = .int .i64 (t.at 2).l.length∧ρ 15 = .slice (some ⟨b1,o1,none⟩) (t.at 2).l.length ac_2∧ρ 17 = .pointer (some ⟨b1,o1+j1 * 5,none⟩)∧ρ 224 = .int .i64 j2∧ρ 223 = .int .i64 Le1_3.length∧ρ 21 = .slice (some ⟨b2,o2,none⟩) Le1_3.length ace1_3∧ρ 23 = .pointer (some ⟨b2,o2+j2 * 19,none⟩)∧AppR 5 B w v s (([]++XL_2++T1++Xe1_0++XLe1_3++T2++Xe2_0++XLe2_2)++XEe2_2) r w')
      (W.loop (fun ρ w'=>∃ (j:Nat) (r:Value),j≤(y2.at 2).l.length∧ρ 271 = .int .i64 j∧ρ 270 = .int .i64 (y2.at 2).l.length∧ρ 26 = .slice abe2_2 (y2.at 2).l.length ace2_2∧ρ 1=r∧ρ 0 = .pointer (some ⟨vb,0,none⟩)∧ρ 5 = .int .i16 ver∧ρ 6 = .bool true∧ρ 166 = .int .i64 j1∧ρ 165 = .int .i64 (t.at 2).l.length∧ρ 15 = .slice (some ⟨b1,o1,none⟩) (t.at 2).l.length ac_2∧ρ 17 = .pointer (some ⟨b1,o1+j1 * 5,none⟩)∧ρ 224 = .int .i64 j2∧ρ 223 = .int .i64 Le1_3.length∧ρ 21 = .slice (some ⟨b2,o2,none⟩) Le1_3.length ace1_3∧ρ 23 = .pointer (some ⟨b2,o2+j2 * 19,none⟩)∧AppR 5 B w v s (([]++XL_2++T1++Xe1_0++XLe1_3++T2++Xe2_0++XLe2_2)++((y2.at 2).l.take j).flatMap (fun x:Tree=>fixedS x.n 4)) r w')
       (fun ρ _=>(y2.at 2).l.length - (RowKit.intOf (ρ 271)).toNat) ?_ ?_) ?_
     ·refine ⟨0,_,Nat.zero_le _,?_,?_,?_,?_,?_,?_,?_,?_,?_,?_,?_,?_,?_,?_,?_,ha7.eqs (by rw [List.take_zero,List.flatMap_nil,List.append_nil])⟩<;>simp (disch:=omega) only [go_sem,↓reduceIte,n0,reduceCtorEq,fN,fO,fP,fQ,mI,mH,mG,mJ,hI2,hN2,hS2]
      all_goals rfl
     ·rintro ρ w8 ⟨j3,r8,hj3,hI3,hN3,hS3,jN,jO,jP,jQ,rR,rQ,rP,rS,rV,rU,rT,rW,ha8⟩
      have hB8:B≤w8.heap.size:=Nat.le_trans hB ha8.upd.size
      have hv_8:=ha8.upd.blk_some hv hdv
      have fA:=ha8.upd.blk_some hx1 cJ
      have E3:=ha8.upd.blk_some hx2 eI
      by_cases hlt3:j3 < (y2.at 2).l.length
      ·obtain ⟨_,b3,o3,x3,ce3,hb3,BV,hx3,AW,HL,HK,hq3,A4⟩:=SlR.get (size:=1) (by decide) wD hlt3
       subst hb3
       have vC:(y2.at 2).l.take (j3+1)=(y2.at 2).l.take j3++[(y2.at 2).l[j3]]:=List.take_succ_eq_append_getElem hlt3
       have mN:=take_flatMap_len (y2.at 2).l (fun x:Tree=>fixedS x.n 4) (j3+1)
       rw [← qZ,vC,List.flatMap_append,List.flatMap_cons,List.flatMap_nil,List.append_nil] at mN
       have GP:=vH.2 _ (List.getElem_mem hlt3)
       generalize (y2.at 2).l[j3] = y3 at *
       have vX:=hd b3 AW BV
       obtain ⟨T3,uF⟩:∃ T,T=((y2.at 2).l.take j3).flatMap (fun x:Tree=>fixedS x.n 4):=⟨_,rfl⟩
       rw [← uF] at ha8 mN
       have K7:=ha8.upd.blk_some hx3 vX
       obtain rfl:=(Rep1_num (by decide)).1 A4
       have BZ:x3.1[o3+j3]? = some (.int .i32 (IntKind.i32.wrap y3.n)):=by have:=hq3 0 (by decide);rw [Nat.mul_one] at this;exact this
       obtain ⟨Y3,hY3⟩:∃ Y,Y=fixedS (y3).n 4:=⟨_,rfl⟩
       replace mN:(T3++Y3).length≤XEe2_2.length:=by rw [hY3];exact mN
       simp only [List.length_append] at mN
       repeat ((first|refine qA ?_|apply qB|refine qC ?_|apply qD|apply qE|apply qF|apply qG|apply qH);try simp (disch:=omega) only [go_sem,↓reduceIte,n0,reduceCtorEq,hv_8,fA,E3,K7,cO,cP,cM,eF,dN,eE,fV,jT,kA,kB,kC,kD,kE,kF,kG,kH,jU,jV,jW,jX,jY,jZ,k7,k9,gI,fze2_1_0,fze2_1_1,fze2_1_2,fze2_1_3,fze2_1_4,fze2_1_5,fze2_1_6,fze2_1_7,fze2_1_8,fze2_1_9,fze2_1_10,fze2_1_11,fze2_1_12,fze2_1_13,fze2_1_14,fze2_1_15,kQ,BZ,jN,jO,jP,jQ,rR,rQ,rP,rS,rV,rU,rT,rW,hI3,hN3,hS3])
       refine (AppendInt32_fn _ _ _ ha8.own hB8 _ (by simp only [List.length_append,List.length_nil];omega)).mono ?_
       rintro r9 w9 hc9
       rw [wrap32,← hY3] at hc9
       have ha9:=ha8.trans hc9
       have hB9:B≤w9.heap.size:=Nat.le_trans hB ha9.upd.size
       have hv_9:=ha9.upd.blk_some hv hdv
       have gE:=ha9.upd.blk_some hx1 cJ
       have E4:=ha9.upd.blk_some hx2 eI
       have KN:=ha9.upd.blk_some hx3 vX
       repeat ((first|refine qA ?_|apply qB|refine qC ?_|apply qD|apply qE|apply qF|apply qG|apply qH);try simp (disch:=omega) only [go_sem,↓reduceIte,n0,reduceCtorEq,jN,jO,jP,jQ,rR,rQ,rP,rS,rV,rU,rT,rW,hI3,hN3,hS3])
       refine ⟨⟨j3+1,_,by omega,rfl,rfl,ha9.eqs ?_⟩,?_⟩
       ·rw [vC,List.flatMap_append,List.flatMap_cons,List.flatMap_nil,List.append_nil,← uF,hY3];simp only [List.append_assoc,List.append_nil,List.nil_append]
       ·simp only [RowKit.intOf];omega
      ·have BF:j3=(y2.at 2).l.length:=by omega
       subst BF
       rw [List.take_length,← qZ] at ha8
       repeat ((first|refine qA ?_|apply qB|refine qC ?_|apply qD|apply qE|apply qF|apply qG|apply qH);try simp (disch:=omega) only [go_sem,↓reduceIte,n0,reduceCtorEq,hI3,hN3])
       exact ⟨_,jN,jO,jP,jQ,rR,rQ,rP,rS,rV,rU,rT,rW,ha8⟩
     ·rintro ρ w10 ⟨r10,gJ,gK,gL,gM,oD,oC,oB,oE,oH,oG,oF,oI,fC⟩
      have yH:B≤w10.heap.size:=Nat.le_trans hB fC.upd.size
      have hv_10:=fC.upd.blk_some hv hdv
      have jL:=fC.upd.blk_some hx1 cJ
      have yD:=fC.upd.blk_some hx2 eI
      repeat ((first|refine qA ?_|apply qB|refine qC ?_|apply qD|apply qE|apply qF|apply qG|apply qH);try simp (disch:=omega) only [go_sem,↓reduceIte,n0,reduceCtorEq,hv_10,jL,yD,cO,cP,cM,eF,dN,eE,fV,jT,kA,kB,kC,kD,kE,kF,kG,kH,jU,jV,jW,jX,jY,jZ,k7,k9,gI,fze2_1_0,fze2_1_1,fze2_1_2,fze2_1_3,fze2_1_4,fze2_1_5,fze2_1_6,fze2_1_7,fze2_1_8,fze2_1_9,fze2_1_10,fze2_1_11,fze2_1_12,fze2_1_13,fze2_1_14,fze2_1_15,kQ,gJ,gK,gL,gM,oD,oC,oB,oE,oH,oG,oF,oI])
      have IY:TagsM (OkS okM w.heap.size) w10 (.map qme2) y2.u:=(qU.weaken fun b h1 h2=>⟨h2,h1⟩).keep (fC.upd.keeps fun b hb hk=>hd b hb hk.1)
      refine (TagsLen_fn (ok:=OkS okM w.heap.size) w10 yD (to:=o2+(j2 * 19+18)) gI IY).mono ?_
      rintro _ w10' ⟨rfl,rfl⟩
      have KF:y2.u.length≤32767:=mE.1
      have ew10:IntKind.u32.wrap (y2.u.length:Int)=y2.u.length:=u32_wrap (by omega)
      have ez10:IntKind.u32.wrap (0+(y2.u.length:Int))=y2.u.length:=by rw [Int.zero_add,u32_wrap (by omega)]
      simp (disch:=omega) only [go_sem,↓reduceIte,n0,reduceCtorEq,hv_10,jL,yD,cO,cP,cM,eF,dN,eE,fV,jT,kA,kB,kC,kD,kE,kF,kG,kH,jU,jV,jW,jX,jY,jZ,k7,k9,gI,fze2_1_0,fze2_1_1,fze2_1_2,fze2_1_3,fze2_1_4,fze2_1_5,fze2_1_6,fze2_1_7,fze2_1_8,fze2_1_9,fze2_1_10,fze2_1_11,fze2_1_12,fze2_1_13,fze2_1_14,fze2_1_15,kQ,gJ,gK,gL,gM,oD,oC,oB,oE,oH,oG,oF,oI,ew10,ez10]
      refine (AppendUvarint_fn _ _ _ fC.own yH y2.u.length (by omega) (by simp only [List.length_append,List.length_nil];omega)).mono ?_
      rintro r11 w11 AX
      rw [← uY] at AX
      have eW:=fC.trans AX
      have uA:B≤w11.heap.size:=Nat.le_trans hB eW.upd.size
      have hv_11:=eW.upd.blk_some hv hdv
      have kT:=eW.upd.blk_some hx1 cJ
      have tS:=eW.upd.blk_some hx2 eI
      repeat ((first|refine qA ?_|apply qB|refine qC ?_|apply qD|apply qE|apply qF|apply qG|apply qH);try simp (disch:=omega) only [go_sem,↓reduceIte,n0,reduceCtorEq,hv_11,kT,tS,cO,cP,cM,eF,dN,eE,fV,jT,kA,kB,kC,kD,kE,kF,kG,kH,jU,jV,jW,jX,jY,jZ,k7,k9,gI,fze2_1_0,fze2_1_1,fze2_1_2,fze2_1_3,fze2_1_4,fze2_1_5,fze2_1_6,fze2_1_7,fze2_1_8,fze2_1_9,fze2_1_10,fze2_1_11,fze2_1_12,fze2_1_13,fze2_1_14,fze2_1_15,kQ,gJ,gK,gL,gM,oD,oC,oB,oE,oH,oG,oF,oI])
      have DD:TagsM (OkS okM w.heap.size) w11 (.map qme2) y2.u:=(qU.weaken fun b h1 h2=>⟨h2,h1⟩).keep (eW.upd.keeps fun b hb hk=>hd b hb hk.1)
      refine (AppendEach_fn (ok:=OkS okM w.heap.size) _ _ _ eW.own uA tS (to:=o2+(j2 * 19+18)) gI DD (rising_keys mE) mE.1 (tags_small mE DD) (hdK eW) (ownK eW (blk_lt hx2) eI) (by simp only [List.length_append,List.length_nil];omega)).mono ?_
      rintro r12 w12 rB
      rw [← uX] at rB
      have fE:=eW.trans rB
      have wO:B≤w12.heap.size:=Nat.le_trans hB fE.upd.size
      have hv_12:=fE.upd.blk_some hv hdv
      have qO:=fE.upd.blk_some hx1 cJ
      have wF:=fE.upd.blk_some hx2 eI
      repeat ((first|refine qA ?_|apply qB|refine qC ?_|apply qD|apply qE|apply qF|apply qG|apply qH);try simp (disch:=omega) only [go_sem,↓reduceIte,n0,reduceCtorEq,gJ,gK,gL,gM,oD,oC,oB,oE,oH,oG,oF,oI])
      refine ⟨⟨j2+1,_,by omega,rfl,rfl,fE.eqs ?_⟩,?_⟩
      ·rw [lH,List.flatMap_append,List.flatMap_cons,List.flatMap_nil,List.append_nil,← l9,uE];simp only [List.append_assoc,List.append_nil,List.nil_append]
      ·simp only [RowKit.intOf];omega
    ·have pK:j2=Le1_3.length:=by omega
     subst pK
     rw [List.take_length,← qY] at ha5
     repeat ((first|refine qA ?_|apply qB|refine qC ?_|apply qD|apply qE|apply qF|apply qG|apply qH);try simp (disch:=omega) only [go_sem,↓reduceIte,n0,reduceCtorEq,hI2,hN2])
     exact ⟨_,fN,fO,fP,fQ,mI,mH,mG,mJ,ha5⟩
   ·rintro ρ w13 ⟨r13,dJ,oJ,oO,oP,oM,oL,oK,oN,eZ⟩
    have uC:B≤w13.heap.size:=Nat.le_trans hB eZ.upd.size
    have hv_13:=eZ.upd.blk_some hv hdv
    have qP:=eZ.upd.blk_some hx1 cJ
    repeat ((first|refine qA ?_|apply qB|refine qC ?_|apply qD|apply qE|apply qF|apply qG|apply qH);try simp (disch:=omega) only [go_sem,↓reduceIte,n0,reduceCtorEq,hv_13,qP,cO,cP,cM,eF,dN,eE,dJ,oJ,oO,oP,oM,oL,oK,oN])
    have tU:TagsM (OkS okM w.heap.size) w13 (.map qme1) y1.u:=(jS.weaken fun b h1 h2=>⟨h2,h1⟩).keep (eZ.upd.keeps fun b hb hk=>hd b hb hk.1)
    refine (TagsLen_fn (ok:=OkS okM w.heap.size) w13 qP (to:=o1+(j1 * 5+4)) dN tU).mono ?_
    rintro _ w13' ⟨rfl,rfl⟩
    have K3:y1.u.length≤32767:=fT.1
    have ew13:IntKind.u32.wrap (y1.u.length:Int)=y1.u.length:=u32_wrap (by omega)
    have ez13:IntKind.u32.wrap (0+(y1.u.length:Int))=y1.u.length:=by rw [Int.zero_add,u32_wrap (by omega)]
    simp (disch:=omega) only [go_sem,↓reduceIte,n0,reduceCtorEq,hv_13,qP,cO,cP,cM,eF,dN,eE,dJ,oJ,oO,oP,oM,oL,oK,oN,ew13,ez13]
    refine (AppendUvarint_fn _ _ _ eZ.own uC y1.u.length (by omega) (by simp only [List.length_append,List.length_nil];omega)).mono ?_
    rintro r14 w14 rC
    rw [← o9] at rC
    have iB:=eZ.trans rC
    have zO:B≤w14.heap.size:=Nat.le_trans hB iB.upd.size
    have hv_14:=iB.upd.blk_some hv hdv
    have CD:=iB.upd.blk_some hx1 cJ
    repeat ((first|refine qA ?_|apply qB|refine qC ?_|apply qD|apply qE|apply qF|apply qG|apply qH);try simp (disch:=omega) only [go_sem,↓reduceIte,n0,reduceCtorEq,hv_14,CD,cO,cP,cM,eF,dN,eE,dJ,oJ,oO,oP,oM,oL,oK,oN])
    have A9:TagsM (OkS okM w.heap.size) w14 (.map qme1) y1.u:=(jS.weaken fun b h1 h2=>⟨h2,h1⟩).keep (iB.upd.keeps fun b hb hk=>hd b hb hk.1)
    refine (AppendEach_fn (ok:=OkS okM w.heap.size) _ _ _ iB.own zO CD (to:=o1+(j1 * 5+4)) dN A9 (rising_keys fT) fT.1 (tags_small fT A9) (hdK iB) (ownK iB (blk_lt hx1) cJ) (by simp only [List.length_append,List.length_nil];omega)).mono ?_
    rintro r15 w15 AY
    rw [← o8] at AY
    have mC:=iB.trans AY
    have EC:B≤w15.heap.size:=Nat.le_trans hB mC.upd.size
    have hv_15:=mC.upd.blk_some hv hdv
    have CE:=mC.upd.blk_some hx1 cJ
    repeat ((first|refine qA ?_|apply qB|refine qC ?_|apply qD|apply qE|apply qF|apply qG|apply qH);try simp (disch:=omega) only [go_sem,↓reduceIte,n0,reduceCtorEq,dJ,oJ,oO,oP,oM,oL,oK,oN])
    refine ⟨⟨j1+1,_,by omega,rfl,rfl,mC.eqs ?_⟩,?_⟩
    ·rw [lG,List.flatMap_append,List.flatMap_cons,List.flatMap_nil,List.append_nil,← l8,l7];simp only [List.append_assoc,List.append_nil,List.nil_append]
    ·simp only [RowKit.intOf];omega
  ·have pJ:j1=(t.at 2).l.length:=by omega
   subst pJ
   rw [List.take_length,← hXE_2] at ha2
   repeat ((first|refine qA ?_|apply qB|refine qC ?_|apply qD|apply qE|apply qF|apply qG|apply qH);try simp (disch:=omega) only [go_sem,↓reduceIte,n0,reduceCtorEq,hI1,hN1])
   exact ⟨_,eH,eG,dJ,dI,ha2⟩
 ·rintro ρ w16 ⟨r16,dI,mK,mL,mM,lF⟩
  have zP:B≤w16.heap.size:=Nat.le_trans hB lF.upd.size
  have hv_16:=lF.upd.blk_some hv hdv
  repeat ((first|refine qA ?_|apply qB|refine qC ?_|apply qD|apply qE|apply qF|apply qG|apply qH);try simp (disch:=omega) only [go_sem,↓reduceIte,n0,reduceCtorEq,hv_16,dI,mK,mL,mM])
  refine (AppendBool_fn _ _ _ lF.own zP _ (by simp only [List.length_append,List.length_nil];omega)).mono ?_
  rintro r17 w17 vB
  rw [← hXX_3] at vB
  have lN:=lF.trans vB
  have D1:B≤w17.heap.size:=Nat.le_trans hB lN.upd.size
  have hv_17:=lN.upd.blk_some hv hdv
  repeat ((first|refine qA ?_|apply qB|refine qC ?_|apply qD|apply qE|apply qF|apply qG|apply qH);try simp (disch:=omega) only [go_sem,↓reduceIte,n0,reduceCtorEq,hv_17,dI,mK,mL,mM])
  have DF:TagsM (OkS okM w.heap.size) w17 (.map qm) t.u:=(hT.weaken fun b h1 h2=>⟨h2,h1⟩).keep (lN.upd.keeps fun b hb hk=>hd b hb hk.1)
  refine (TagsLen_fn (ok:=OkS okM w.heap.size) w17 hv_17 (to:=5) (show (#[.int .i16 ver,strV (t.at 0).s,p_1,.slice ab_2 (t.at 2).l.length ac_2,.bool (decide ((t.at 3).n % 2=1)),.map qm]:Array Value)[5]? = some (.map qm) from rfl) DF).mono ?_
  rintro _ w17' ⟨rfl,rfl⟩
  have KJ:t.u.length≤32767:=hfu.1
  have ew17:IntKind.u32.wrap (t.u.length:Int)=t.u.length:=u32_wrap (by omega)
  have ez17:IntKind.u32.wrap (0+(t.u.length:Int))=t.u.length:=by rw [Int.zero_add,u32_wrap (by omega)]
  simp (disch:=omega) only [go_sem,↓reduceIte,n0,reduceCtorEq,hv_17,dI,mK,mL,mM,ew17,ez17]
  refine (AppendUvarint_fn _ _ _ lN.own D1 t.u.length (by omega) (by simp only [List.length_append,List.length_nil];omega)).mono ?_
  rintro r18 w18 AZ
  rw [← hXU] at AZ
  have mD:=lN.trans AZ
  have D2:B≤w18.heap.size:=Nat.le_trans hB mD.upd.size
  have hv_18:=mD.upd.blk_some hv hdv
  repeat ((first|refine qA ?_|apply qB|refine qC ?_|apply qD|apply qE|apply qF|apply qG|apply qH);try simp (disch:=omega) only [go_sem,↓reduceIte,n0,reduceCtorEq,hv_18,dI,mK,mL,mM])
  have G1:TagsM (OkS okM w.heap.size) w18 (.map qm) t.u:=(hT.weaken fun b h1 h2=>⟨h2,h1⟩).keep (mD.upd.keeps fun b hb hk=>hd b hb hk.1)
  refine (AppendEach_fn (ok:=OkS okM w.heap.size) _ _ _ mD.own D2 hv_18 (to:=5) (show (#[.int .i16 ver,strV (t.at 0).s,p_1,.slice ab_2 (t.at 2).l.length ac_2,.bool (decide ((t.at 3).n % 2=1)),.map qm]:Array Value)[5]? = some (.map qm) from rfl) G1 (rising_keys hfu) hfu.1 (tags_small hfu G1) (hdK mD) (ownK mD (blk_lt hv) hdv) (by simp only [List.length_append,List.length_nil];omega)).mono ?_
  rintro r19 w19 B0
  rw [← hXT] at B0
  have oA:=mD.trans B0
  have D3:B≤w19.heap.size:=Nat.le_trans hB oA.upd.size
  have hv_19:=oA.upd.blk_some hv hdv
  repeat ((first|refine qA ?_|apply qB|refine qC ?_|apply qD|apply qE|apply qF|apply qG|apply qH);try simp (disch:=omega) only [go_sem,↓reduceIte,n0,reduceCtorEq,hv_19,dI,mK,mL,mM])
  refine oA.eqs ?_
  rw [hP];simp only [List.append_assoc,List.append_nil,List.nil_append]

set_option maxHeartbeats 4000000 in
theorem appQ_5 {d B:Nat} {okM:Blocks} {ver:Int} (hlo:9≤ver) (hhi:ver≤9) (t:Tree) (cells:List Value) (v:Value) (s:List UInt8) (w:World) {vb:Nat} (ho:OwnBy 5 B w v s) (hB:B≤w.heap.size) (hvb:blk w vb=some ((.int .i16 ver :: cells).toArray,63,(0,0)))
  (hR:RepS true (d+3) fsr_Q okM w t cells) (hfit:FitW ver (d+3) fsr_Q t) (hd:∀ b,b < w.heap.size→okM b→¬ ownB v b) (hdv:¬ ownB v vb) (hlen:s.length+(partS (d+3) fsr_Q ver true t).length≤2 ^ 41) :
  Fn Tryz.prog 19 #[.pointer (some ⟨vb,0,none⟩),v] w fun r w'=>AppR 5 B w v s (partS (d+3) fsr_Q ver true t) r w':=by
 obtain ⟨⟨g_0,g_1,g_2,g_3,-⟩,hfu⟩:=hfit
 replace g_0:hasS fQ_0 ver=true→FitWF (FitW ver (d+2)) ver fQ_0 (t.at 0):=g_0
 have hh_0:hasS fQ_0 ver=false:=hasS_f (by show ver < 0∨(0≤(7:Int)∧(7:Int) < ver);omega)
 clear g_0
 replace g_1:hasS fQ_1 ver=true→FitWF (FitW ver (d+2)) ver fQ_1 (t.at 1):=g_1
 have hh_1:hasS fQ_1 ver=false:=hasS_f (by show ver < 0∨(0≤(7:Int)∧(7:Int) < ver);omega)
 clear g_1
 replace g_2:hasS frQ_2 ver=true→FitWF (FitW ver (d+2)) ver frQ_2 (t.at 2):=g_2
 have hh_2:hasS frQ_2 ver=true:=hasS_t (by show (8:Int)≤ver;omega) (by show (-1:Int) < 0∨ver≤(-1:Int);omega)
 replace g_2:=g_2 hh_2
 replace g_3:hasS fQ_3 ver=true→FitWF (FitW ver (d+2)) ver fQ_3 (t.at 3):=g_3
 have hh_3:hasS fQ_3 ver=true:=hasS_t (by show (7:Int)≤ver;omega) (by show (-1:Int) < 0∨ver≤(-1:Int);omega)
 replace g_3:=g_3 hh_3
 obtain ⟨cs,q,hcs,hL,hT⟩:=hR.inv
 obtain ⟨c_0,e_0,rfl,h_0,c_1,e_1,rfl,h_1,c_2,e_2,rfl,h_2,c_3,e_3,rfl,h_3,rfl⟩:=hL
 replace h_0:RepF (RepS true (d+2)) (szS true (d+2)) fQ_0 okM w (t.at 0) c_0:=h_0
 replace h_1:RepF (RepS true (d+2)) (szS true (d+2)) fQ_1 okM w (t.at 1) c_1:=h_1
 replace h_2:RepF (RepS true (d+2)) (szS true (d+2)) frQ_2 okM w (t.at 2) c_2:=h_2
 replace h_3:RepF (RepS true (d+2)) (szS true (d+2)) fQ_3 okM w (t.at 3) c_3:=h_3
 obtain rfl:=(RepF_text rfl (by decide)).1 h_0
 obtain ⟨p_1,rfl⟩:=RepF_any (by decide) h_1
 obtain ⟨p_2,rfl,hs_2⟩:=RepF_listW g_2 rfl (by decide) h_2
 obtain ⟨ab_2,ac_2,rfl,_⟩:=SlR.shape hs_2
 have hgl_2:=g_2.list rfl
 have hll_2:=hgl_2.1
 obtain rfl:=(RepF_num (by decide)).1 h_3
 obtain ⟨qm,rfl⟩:=hT.shape
 have hv:blk w vb=some (#[.int .i16 ver,strV (t.at 0).s,p_1,.slice ab_2 (t.at 2).l.length ac_2,.bool (decide ((t.at 3).n % 2=1)),.map qm],63,(0,0)):=by rw [hvb,hcs];rfl
 clear hvb hcs
 obtain ⟨XL_2,hXL_2⟩:∃ X,X=uvarS ((t.at 2).l.length+1):=⟨_,rfl⟩
 obtain ⟨XE_2,hXE_2⟩:∃ X,X=(t.at 2).l.flatMap (fun x=>partS (d+2) fsr_X1 ver true x):=⟨_,rfl⟩
 obtain ⟨X_3,hXX_3⟩:∃ X,X=[if decide ((t.at 3).n % 2=1)=true then (1:UInt8) else 0]:=⟨_,rfl⟩
 obtain ⟨XU,hXU⟩:∃ X,X=uvarS t.u.length:=⟨_,rfl⟩
 obtain ⟨XT,hXT⟩:∃ X,X=t.u.flatMap oneTag:=⟨_,rfl⟩
 have hP:partS (d+3) fsr_Q ver true t=((XL_2++XE_2)++(X_3++[]))++(XU++XT):=by rw [hXU,hXT];exact partS_yes rfl hfu (plainL_not hh_0 (plainL_not hh_1 (plainL_has (by decide) hh_2 ((fieldS_list_t (g:=(fun x=>partS (d+2) fsr_X1 ver true x)) g_2 rfl (by decide) (fun x _=>valueS_part)).trans (by rw [hXL_2,hXE_2])) (plainL_has (by decide) hh_3 ((fieldS_bool rfl).trans hXX_3.symm) rfl))))
 rw [hP] at hlen
 simp only [List.length_append,List.length_nil] at hlen
 have hdK:∀ {r:Value} {w':World} {add:List UInt8},AppR 5 B w v s add r w'→∀ b,b < w'.heap.size→OkS okM w.heap.size b→¬ ownB r b:=fun h b _ hk ho=>(h.frame b ho).elim (hd b hk.2 hk.1) (fun h=>by have:=hk.2;omega)
 have ownK:∀ {r:Value} {w':World} {add:List UInt8} {b:Nat},AppR 5 B w v s add r w'→b < w.heap.size→¬ ownB v b→¬ ownB r b:=fun h hb hn ho=>(h.frame _ ho).elim hn (fun h=>by omega)
 have ha0:AppR 5 B w v s [] v w:=AppR.refl ho
 obtain ⟨w0,hw0⟩:∃ w0,w0=w:=⟨_,rfl⟩
 have hB0:=hB
 have hv_0:=hv
 refine fn_of_W Tryz.func19 rfl Tryz.results19 Tryz.ntmps19 rfl ?_
 repeat ((first|refine qA ?_|apply qB|refine qC ?_|apply qD|apply qE|apply qF|apply qG|apply qH);try simp (disch:=omega) only [go_sem,↓reduceIte,n0,reduceCtorEq,hv_0])
 refine (AppendCompactArrayLen_fn _ _ _ ha0.own hB0 (t.at 2).l.length hll_2 (by simp only [List.length_append,List.length_nil];omega)).mono ?_
 rintro r1 w1 hc1
 rw [← hXL_2] at hc1
 have ha1:=ha0.trans hc1
 have hB1:B≤w1.heap.size:=Nat.le_trans hB ha1.upd.size
 have hv_1:=ha1.upd.blk_some hv hdv
 repeat ((first|refine qA ?_|apply qB|refine qC ?_|apply qD|apply qE|apply qF|apply qG|apply qH);try simp (disch:=omega) only [go_sem,↓reduceIte,n0,reduceCtorEq,hv_1])
 have z1:=ha1
 refine W.exitJ 4 (fun ρ w'=>∃ r,ρ 1=r∧ρ 0 = .pointer (some ⟨vb,0,none⟩)∧ρ 5 = .int .i16 ver∧ρ 6 = .bool true∧AppR 5 B w v s (([]++XL_2)++XE_2) r w')
  (W.loop (fun ρ w'=>∃ (j:Nat) (r:Value),j≤(t.at 2).l.length∧ρ 166 = .int .i64 j∧ρ 165 = .int .i64 (t.at 2).l.length∧ρ 15 = .slice ab_2 (t.at 2).l.length ac_2∧ρ 1=r∧ρ 0 = .pointer (some ⟨vb,0,none⟩)∧ρ 5 = .int .i16 ver∧ρ 6 = .bool true∧AppR 5 B w v s (([]++XL_2)++((t.at 2).l.take j).flatMap (fun x=>partS (d+2) fsr_X1 ver true x)) r w')
   (fun ρ _=>(t.at 2).l.length - (RowKit.intOf (ρ 166)).toNat) ?_ ?_) ?_
 ·refine ⟨0,_,Nat.zero_le _,?_,?_,?_,?_,?_,?_,?_,ha1.eqs (by rw [List.take_zero,List.flatMap_nil,List.append_nil])⟩<;>simp (disch:=omega) only [go_sem,↓reduceIte,n0,reduceCtorEq]
  all_goals rfl
 ·rintro ρ w2 ⟨j1,r2,hj1,hI1,hN1,hS1,eH,eG,dJ,dI,ha2⟩
  have hB2:B≤w2.heap.size:=Nat.le_trans hB ha2.upd.size
  have hv_2:=ha2.upd.blk_some hv hdv
  by_cases eJ:j1 < (t.at 2).l.length
  ·obtain ⟨_,b1,o1,x1,ce1,hb1,hok1,hx1,pE,zG,zE,hq1,iF⟩:=SlR.get (size:=5) (by decide) hs_2 eJ
   subst hb1
   have lG:(t.at 2).l.take (j1+1)=(t.at 2).l.take j1++[(t.at 2).l[j1]]:=List.take_succ_eq_append_getElem eJ
   have fI:=take_flatMap_len (t.at 2).l (fun x=>partS (d+2) fsr_X1 ver true x) (j1+1)
   rw [← hXE_2,lG,List.flatMap_append,List.flatMap_cons,List.flatMap_nil,List.append_nil] at fI
   have pI:=hgl_2.2 _ (List.getElem_mem eJ)
   generalize (t.at 2).l[j1] = y1 at *
   have cJ:=hd b1 pE hok1
   obtain ⟨T1,l8⟩:∃ T,T=((t.at 2).l.take j1).flatMap (fun x=>partS (d+2) fsr_X1 ver true x):=⟨_,rfl⟩
   rw [← l8] at ha2 fI
   have CG:=ha2.upd.blk_some hx1 cJ
   replace iF:RepS true (d+2) fsr_X1 okM w y1 ce1:=Rep1_part.1 iF
   have pH:FitW ver (d+2) fsr_X1 y1:=pI.2 rfl
   obtain ⟨⟨ge1_0,ge1_1,ge1_2,ge1_3,-⟩,fT⟩:=pH
   replace ge1_0:hasS fX1_0 ver=true→FitWF (FitW ver (d+1)) ver fX1_0 (y1.at 0):=ge1_0
   have lI:hasS fX1_0 ver=true:=hasS_t (by show (0:Int)≤ver;omega) (by show (-1:Int) < 0∨ver≤(-1:Int);omega)
   replace ge1_0:=ge1_0 lI
   replace ge1_1:hasS fX1_1 ver=true→FitWF (FitW ver (d+1)) ver fX1_1 (y1.at 1):=ge1_1
   have lO:hasS fX1_1 ver=true:=hasS_t (by show (9:Int)≤ver;omega) (by show (-1:Int) < 0∨ver≤(-1:Int);omega)
   replace ge1_1:=ge1_1 lO
   replace ge1_2:hasS fX1_2 ver=true→FitWF (FitW ver (d+1)) ver fX1_2 (y1.at 2):=ge1_2
   have xN:hasS fX1_2 ver=true:=hasS_t (by show (9:Int)≤ver;omega) (by show (-1:Int) < 0∨ver≤(-1:Int);omega)
   replace ge1_2:=ge1_2 xN
   replace ge1_3:hasS frX1_3 ver=true→FitWF (FitW ver (d+1)) ver frX1_3 (y1.at 3):=ge1_3
   have vI:hasS frX1_3 ver=true:=hasS_t (by show (0:Int)≤ver;omega) (by show (-1:Int) < 0∨ver≤(-1:Int);omega)
   replace ge1_3:=ge1_3 vI
   obtain ⟨cse1,qe1,pG,oZ,jS⟩:=iF.inv
   obtain ⟨ce1_0,ee1_0,rfl,iG,ce1_1,ee1_1,rfl,iH,ce1_2,ee1_2,rfl,rD,ce1_3,ee1_3,rfl,rE,rfl⟩:=oZ
   replace iG:RepF (RepS true (d+1)) (szS true (d+1)) fX1_0 okM w (y1.at 0) ce1_0:=iG
   replace iH:RepF (RepS true (d+1)) (szS true (d+1)) fX1_1 okM w (y1.at 1) ce1_1:=iH
   replace rD:RepF (RepS true (d+1)) (szS true (d+1)) fX1_2 okM w (y1.at 2) ce1_2:=rD
   replace rE:RepF (RepS true (d+1)) (szS true (d+1)) frX1_3 okM w (y1.at 3) ce1_3:=rE
   obtain rfl:=(RepF_text rfl (by decide)).1 iG
   obtain ⟨pe1_1,rfl,DL⟩:=(RepF_ptr rfl (by decide)).1 iH
   obtain rfl:=(RepF_num (by decide)).1 rD
   obtain ⟨pe1_3,Le1_3,rfl,uD,wC,BU⟩:=RepF_listN ge1_3 rfl (by decide) rE
   obtain ⟨abe1_3,ace1_3,rfl,_⟩:=SlR.shape wC
   have eE:=BU _ _ _ rfl
   have vG:=ge1_3.listL rfl uD
   have BR:=vG.1
   obtain ⟨qme1,rfl⟩:=jS.shape
   subst pG
   have cO:x1.1[o1+j1 * 5]? = some (strV (y1.at 0).s):=hq1 0 (by decide)
   have cP:x1.1[o1+(j1 * 5+1)]? = some (pe1_1):=hq1 1 (by decide)
   have cM:x1.1[o1+(j1 * 5+2)]? = some (.int .i32 (IntKind.i32.wrap (y1.at 2).n)):=hq1 2 (by decide)
   have eF:x1.1[o1+(j1 * 5+3)]? = some (.slice abe1_3 Le1_3.length ace1_3):=hq1 3 (by decide)
   have dN:x1.1[o1+(j1 * 5+4)]? = some (.map qme1):=hq1 4 (by decide)
   obtain ⟨Xe1_0,lE⟩:∃ X,X=uvarS ((y1.at 0).s.length+1)++(y1.at 0).s:=⟨_,rfl⟩
   obtain ⟨Xe1_1,AJ⟩:∃ X,X=if (y1.at 1).null=true then [0] else uvarS ((y1.at 1).s.length+1)++(y1.at 1).s:=⟨_,rfl⟩
   obtain ⟨Xe1_2,AK⟩:∃ X,X=fixedS (y1.at 2).n 4:=⟨_,rfl⟩
   obtain ⟨XLe1_3,uV⟩:∃ X,X=countedS true (nullS frX1_3 ver (y1.at 3)) Le1_3.length 4:=⟨_,rfl⟩
   obtain ⟨XEe1_3,qY⟩:∃ X,X=Le1_3.flatMap (fun x=>partS (d+1) fs_X0 ver true x):=⟨_,rfl⟩
   obtain ⟨XUe1,o9⟩:∃ X,X=uvarS y1.u.length:=⟨_,rfl⟩
   obtain ⟨XTe1,o8⟩:∃ X,X=y1.u.flatMap oneTag:=⟨_,rfl⟩
   have l7:partS (d+2) fsr_X1 ver true y1=(Xe1_0++(Xe1_1++(Xe1_2++((XLe1_3++XEe1_3)++[]))))++(XUe1++XTe1):=by rw [o9,o8];exact partS_yes rfl fT (plainL_has (by decide) lI ((fieldS_text_t ge1_0 rfl (by decide)).trans lE.symm) (plainL_has (by decide) lO ((fieldS_ptr_t ge1_1 rfl (by decide)).trans AJ.symm) (plainL_has (by decide) xN ((fieldS_num 3 rfl (by decide)).trans AK.symm) (plainL_has (by decide) vI ((fieldS_listN (g:=(fun x=>partS (d+1) fs_X0 ver true x)) ge1_3 rfl uD (fun x _=>valueS_part)).trans (by rw [uV,qY])) rfl))))
   rw [l7] at fI
   simp only [List.length_append,List.length_nil] at fI
   repeat ((first|refine qA ?_|apply qB|refine qC ?_|apply qD|apply qE|apply qF|apply qG|apply qH);try simp (disch:=omega) only [go_sem,↓reduceIte,n0,reduceCtorEq,hv_2,CG,cO,cP,cM,eF,dN,eE,eH,eG,dJ,dI,hI1,hN1,hS1])
   refine (AppendCompactString_fn _ _ _ ha2.own hB2 (y1.at 0).s (ge1_0.text (.inl rfl)) (by simp only [List.length_append,List.length_nil];omega)).mono ?_
   rintro r3 w3 hc3
   rw [← lE] at hc3
   have ha3:=ha2.trans hc3
   have hB3:B≤w3.heap.size:=Nat.le_trans hB ha3.upd.size
   have hv_3:=ha3.upd.blk_some hv hdv
   have pT:=ha3.upd.blk_some hx1 cJ
   repeat ((first|refine qA ?_|apply qB|refine qC ?_|apply qD|apply qE|apply qF|apply qG|apply qH);try simp (disch:=omega) only [go_sem,↓reduceIte,n0,reduceCtorEq,hv_3,pT,cO,cP,cM,eF,dN,eE,eH,eG,dJ,dI,hI1,hN1,hS1])
   refine (AppendCompactNullableString_fn (ok:=okM) _ _ _ ha3.own hB3 _ (y1.at 1).null (y1.at 1).s (DL.keep (ha3.upd.keeps hd)) (ge1_1.text (.inl rfl)) (by simp only [List.length_append,List.length_nil];omega)).mono ?_
   rintro r4 w4 hc4
   rw [← AJ] at hc4
   have ha4:=ha3.trans hc4
   have hB4:B≤w4.heap.size:=Nat.le_trans hB ha4.upd.size
   have hv_4:=ha4.upd.blk_some hv hdv
   have iD:=ha4.upd.blk_some hx1 cJ
   repeat ((first|refine qA ?_|apply qB|refine qC ?_|apply qD|apply qE|apply qF|apply qG|apply qH);try simp (disch:=omega) only [go_sem,↓reduceIte,n0,reduceCtorEq,hv_4,iD,cO,cP,cM,eF,dN,eE,eH,eG,dJ,dI,hI1,hN1,hS1])
   refine (AppendInt32_fn _ _ _ ha4.own hB4 _ (by simp only [List.length_append,List.length_nil];omega)).mono ?_
   rintro r5 w5 hc5
   rw [wrap32,← AK] at hc5
   have ha5:=ha4.trans hc5
   have hB5:B≤w5.heap.size:=Nat.le_trans hB ha5.upd.size
   have hv_5:=ha5.upd.blk_some hv hdv
   have kU:=ha5.upd.blk_some hx1 cJ
   repeat ((first|refine qA ?_|apply qB|refine qC ?_|apply qD|apply qE|apply qF|apply qG|apply qH);try simp (disch:=omega) only [go_sem,↓reduceIte,n0,reduceCtorEq,hv_5,kU,cO,cP,cM,eF,dN,eE,eH,eG,dJ,dI,hI1,hN1,hS1])
   refine (AppendCompactNullableArrayLen_fn _ _ _ ha5.own hB5 Le1_3.length BR (nullS frX1_3 ver (y1.at 3)) (by simp only [List.length_append,List.length_nil];omega)).mono ?_
   rintro r6 w6 hc6
   rw [← uV] at hc6
   have ha6:=ha5.trans hc6
   have hB6:B≤w6.heap.size:=Nat.le_trans hB ha6.upd.size
   have hv_6:=ha6.upd.blk_some hv hdv
   have kV:=ha6.upd.blk_some hx1 cJ
   repeat ((first|refine qA ?_|apply qB|refine qC ?_|apply qD|apply qE|apply qF|apply qG|apply qH);try simp (disch:=omega) only [go_sem,↓reduceIte,n0,reduceCtorEq,hv_6,kV,cO,cP,cM,eF,dN,eE,eH,eG,dJ,dI,hI1,hN1,hS1])
   have z2:=ha6
   refine W.exitJ 6 (fun ρ w'=>∃ r,ρ 1=r∧ρ 0 = .pointer (some ⟨vb,0,none⟩)∧ρ 5 = .int .i16 ver∧ρ 6 = .bool true∧ρ 166 = .int .i64 j1∧ρ 165 = .int .i64 (t.at 2).l.length∧ρ 15 = .slice (some ⟨b1,o1,none⟩) (t.at 2).l.length ac_2∧ρ 17 = .pointer (some ⟨b1,o1+j1 * 5,none⟩)∧AppR 5 B w v s (([]++XL_2++T1++Xe1_0++Xe1_1++Xe1_2++XLe1_3)++XEe1_3) r w')
    (W.loop (fun ρ w'=>∃ (j:Nat) (r:Value),j≤Le1_3.length∧ρ 224 = .int .i64 j∧ρ 223 = .int .i64 Le1_3.length∧ρ 21 = .slice abe1_3 Le1_3.length ace1_3∧ρ 1=r∧ρ 0 = .pointer (some ⟨vb,0,none⟩)∧ρ 5 = .int .i16 ver∧ρ 6 = .bool true∧ρ 166 = .int .i64 j1∧ρ 165 = .int .i64 (t.at 2).l.length∧ρ 15 = .slice (some ⟨b1,o1,none⟩) (t.at 2).l.length ac_2∧ρ 17 = .pointer (some ⟨b1,o1+j1 * 5,none⟩)∧AppR 5 B w v s (([]++XL_2++T1++Xe1_0++Xe1_1++Xe1_2++XLe1_3)++(Le1_3.take j).flatMap (fun x=>partS (d+1) fs_X0 ver true x)) r w')
     (fun ρ _=>Le1_3.length - (RowKit.intOf (ρ 224)).toNat) ?_ ?_) ?_
   ·refine ⟨0,_,Nat.zero_le _,?_,?_,?_,?_,?_,?_,?_,?_,?_,?_,?_,ha6.eqs (by rw [List.take_zero,List.flatMap_nil,List.append_nil])⟩<;>simp (disch:=omega) only [go_sem,↓reduceIte,n0,reduceCtorEq,eH,eG,dJ,dI,hI1,hN1,hS1]
    all_goals rfl
   ·rintro ρ w7 ⟨j2,r7,hj2,hI2,hN2,hS2,fN,fO,fP,fQ,mI,mH,mG,mJ,ha7⟩
    have hB7:B≤w7.heap.size:=Nat.le_trans hB ha7.upd.size
    have hv_7:=ha7.upd.blk_some hv hdv
    have eY:=ha7.upd.blk_some hx1 cJ
    by_cases hlt2:j2 < Le1_3.length
    ·obtain ⟨_,b2,o2,x2,ce2,hb2,hok2,hx2,pF,zH,zF,hq2,jM⟩:=SlR.get (size:=19) (by decide) wC hlt2
     subst hb2
     have lH:Le1_3.take (j2+1)=Le1_3.take j2++[Le1_3[j2]]:=List.take_succ_eq_append_getElem hlt2
     have eX:=take_flatMap_len Le1_3 (fun x=>partS (d+1) fs_X0 ver true x) (j2+1)
     rw [← qY,lH,List.flatMap_append,List.flatMap_cons,List.flatMap_nil,List.append_nil] at eX
     have tW:=vG.2 _ (List.getElem_mem hlt2)
     generalize Le1_3[j2] = y2 at *
     have eI:=hd b2 pF hok2
     obtain ⟨T2,l9⟩:∃ T,T=(Le1_3.take j2).flatMap (fun x=>partS (d+1) fs_X0 ver true x):=⟨_,rfl⟩
     rw [← l9] at ha7 eX
     have u6:=ha7.upd.blk_some hx2 eI
     replace jM:RepS true (d+1) fs_X0 okM w y2 ce2:=Rep1_part.1 jM
     have B7:FitW ver (d+1) fs_X0 y2:=tW.2 rfl
     obtain ⟨⟨ge2_0,ge2_1,ge2_2,-⟩,mE⟩:=B7
     replace ge2_0:hasS fX0_0 ver=true→FitWF (FitW ver d) ver fX0_0 (y2.at 0):=ge2_0
     have mR:hasS fX0_0 ver=true:=hasS_t (by show (8:Int)≤ver;omega) (by show (9:Int) < 0∨ver≤(9:Int);omega)
     replace ge2_0:=ge2_0 mR
     replace ge2_1:hasS fX0_1 ver=true→FitWF (FitW ver d) ver fX0_1 (y2.at 1):=ge2_1
     have mZ:hasS fX0_1 ver=false:=hasS_f (by show ver < 10∨(0≤(-1:Int)∧(-1:Int) < ver);omega)
     clear ge2_1
     replace ge2_2:hasS fX0_2 ver=true→FitWF (FitW ver d) ver fX0_2 (y2.at 2):=ge2_2
     have mF:hasS fX0_2 ver=true:=hasS_t (by show (0:Int)≤ver;omega) (by show (-1:Int) < 0∨ver≤(-1:Int);omega)
     replace ge2_2:=ge2_2 mF
     obtain ⟨cse2,qe2,B6,zZ,qU⟩:=jM.inv
     obtain ⟨ce2_0,ee2_0,rfl,rF,ce2_1,ee2_1,rfl,rG,ce2_2,ee2_2,rfl,rH,rfl⟩:=zZ
     replace rF:RepF (RepS true d) (szS true d) fX0_0 okM w (y2.at 0) ce2_0:=rF
     replace rG:RepF (RepS true d) (szS true d) fX0_1 okM w (y2.at 1) ce2_1:=rG
     replace rH:RepF (RepS true d) (szS true d) fX0_2 okM w (y2.at 2) ce2_2:=rH
     obtain rfl:=(RepF_text rfl (by decide)).1 rF
     obtain rfl:=(RepF_uuid rfl).1 rG
     have CC:((uuidS (y2.at 1).s).map byteV).length=16:=by rw [List.length_map,uuidS_len]
     have vF:=flat_bytes (uuidS (y2.at 1).s)
     generalize F1:(uuidS (y2.at 1).s).map byteV=Ze2_1 at *
     obtain ⟨ze2_1_0,ze2_1_1,ze2_1_2,ze2_1_3,ze2_1_4,ze2_1_5,ze2_1_6,ze2_1_7,ze2_1_8,ze2_1_9,ze2_1_10,ze2_1_11,ze2_1_12,ze2_1_13,ze2_1_14,ze2_1_15,rfl⟩:=list16 CC
     simp only [List.all_cons,List.all_nil,Bool.and_true,Bool.and_eq_true] at vF
     obtain ⟨fze2_1_0,fze2_1_1,fze2_1_2,fze2_1_3,fze2_1_4,fze2_1_5,fze2_1_6,fze2_1_7,fze2_1_8,fze2_1_9,fze2_1_10,fze2_1_11,fze2_1_12,fze2_1_13,fze2_1_14,fze2_1_15⟩:=vF
     obtain ⟨pe2_2,rfl,wD⟩:=RepF_listW ge2_2 rfl (by decide) rH
     obtain ⟨abe2_2,ace2_2,rfl,_⟩:=SlR.shape wD
     have vH:=ge2_2.list rfl
     have BS:=vH.1
     obtain ⟨qme2,rfl⟩:=qU.shape
     subst B6
     have fV:x2.1[o2+j2 * 19]? = some (strV (y2.at 0).s):=hq2 0 (by decide)
     have jT:x2.1[o2+(j2 * 19+1)]? = some (ze2_1_0):=hq2 1 (by decide)
     have kA:x2.1[o2+(j2 * 19+2)]? = some (ze2_1_1):=hq2 2 (by decide)
     have kB:x2.1[o2+(j2 * 19+3)]? = some (ze2_1_2):=hq2 3 (by decide)
     have kC:x2.1[o2+(j2 * 19+4)]? = some (ze2_1_3):=hq2 4 (by decide)
     have kD:x2.1[o2+(j2 * 19+5)]? = some (ze2_1_4):=hq2 5 (by decide)
     have kE:x2.1[o2+(j2 * 19+6)]? = some (ze2_1_5):=hq2 6 (by decide)
     have kF:x2.1[o2+(j2 * 19+7)]? = some (ze2_1_6):=hq2 7 (by decide)
     have kG:x2.1[o2+(j2 * 19+8)]? = some (ze2_1_7):=hq2 8 (by decide)
     have kH:x2.1[o2+(j2 * 19+9)]? = some (ze2_1_8):=hq2 9 (by decide)
     have jU:x2.1[o2+(j2 * 19+10)]? = some (ze2_1_9):=hq2 10 (by decide)
     have jV:x2.1[o2+(j2 * 19+11)]? = some (ze2_1_10):=hq2 11 (by decide)
     have jW:x2.1[o2+(j2 * 19+12)]? = some (ze2_1_11):=hq2 12 (by decide)
     have jX:x2.1[o2+(j2 * 19+13)]? = some (ze2_1_12):=hq2 13 (by decide)
     have jY:x2.1[o2+(j2 * 19+14)]? = some (ze2_1_13):=hq2 14 (by decide)
     have jZ:x2.1[o2+(j2 * 19+15)]? = some (ze2_1_14):=hq2 15 (by decide)
     have k7:x2.1[o2+(j2 * 19+16)]? = some (ze2_1_15):=hq2 16 (by decide)
     have k9:x2.1[o2+(j2 * 19+17)]? = some (.slice abe2_2 (y2.at 2).l.length ace2_2):=hq2 17 (by decide)
     have gI:x2.1[o2+(j2 * 19+18)]? = some (.map qme2):=hq2 18 (by decide)
     have kQ:cellsAt x2.1 (o2+(j2 * 19+1)) 16=some (.agg #[ze2_1_0,ze2_1_1,ze2_1_2,ze2_1_3,ze2_1_4,ze2_1_5,ze2_1_6,ze2_1_7,ze2_1_8,ze2_1_9,ze2_1_10,ze2_1_11,ze2_1_12,ze2_1_13,ze2_1_14,ze2_1_15]):=by
      refine cellsAt_of (l:=[ze2_1_0,ze2_1_1,ze2_1_2,ze2_1_3,ze2_1_4,ze2_1_5,ze2_1_6,ze2_1_7,ze2_1_8,ze2_1_9,ze2_1_10,ze2_1_11,ze2_1_12,ze2_1_13,ze2_1_14,ze2_1_15]) (fun j hj => ?_) rfl (by omega)
      rw [show o2+(j2 * 19+1)+j=o2+(j2 * 19+(1+j)) by omega]
      exact (hq2 (1+j) (by omega)).trans (get_mid (pre:=[strV (y2.at 0).s]) (xs:=[ze2_1_0,ze2_1_1,ze2_1_2,ze2_1_3,ze2_1_4,ze2_1_5,ze2_1_6,ze2_1_7,ze2_1_8,ze2_1_9,ze2_1_10,ze2_1_11,ze2_1_12,ze2_1_13,ze2_1_14,ze2_1_15]) (post:=[.slice abe2_2 (y2.at 2).l.length ace2_2,.map qme2]) hj)
     obtain ⟨Xe2_0,AL⟩:∃ X,X=uvarS ((y2.at 0).s.length+1)++(y2.at 0).s:=⟨_,rfl⟩
     obtain ⟨XLe2_2,uW⟩:∃ X,X=uvarS ((y2.at 2).l.length+1):=⟨_,rfl⟩
     obtain ⟨XEe2_2,qZ⟩:∃ X,X=(y2.at 2).l.flatMap (fun x:Tree=>fixedS x.n 4):=⟨_,rfl⟩
     obtain ⟨XUe2,uY⟩:∃ X,X=uvarS y2.u.length:=⟨_,rfl⟩
     obtain ⟨XTe2,uX⟩:∃ X,X=y2.u.flatMap oneTag:=⟨_,rfl⟩
     have uE:partS (d+1) fs_X0 ver true y2=(Xe2_0++((XLe2_2++XEe2_2)++[]))++(XUe2++XTe2):=by rw [uY,uX];exact partS_yes rfl mE (plainL_has (by decide) mR ((fieldS_text_t ge2_0 rfl (by decide)).trans AL.symm) (plainL_not mZ (plainL_has (by decide) mF ((fieldS_list_t (g:=(fun x:Tree=>fixedS x.n 4)) ge2_2 rfl (by decide) (fun x _=>valueS_num 3 (by decide))).trans (by rw [uW,qZ])) rfl)))
     rw [uE] at eX
     simp only [List.length_append,List.length_nil] at eX
     repeat ((first|refine qA ?_|apply qB|refine qC ?_|apply qD|apply qE|apply qF|apply qG|apply qH);try simp (disch:=omega) only [go_sem,↓reduceIte,n0,reduceCtorEq,hv_7,eY,u6,cO,cP,cM,eF,dN,eE,fV,jT,kA,kB,kC,kD,kE,kF,kG,kH,jU,jV,jW,jX,jY,jZ,k7,k9,gI,fze2_1_0,fze2_1_1,fze2_1_2,fze2_1_3,fze2_1_4,fze2_1_5,fze2_1_6,fze2_1_7,fze2_1_8,fze2_1_9,fze2_1_10,fze2_1_11,fze2_1_12,fze2_1_13,fze2_1_14,fze2_1_15,kQ,fN,fO,fP,fQ,mI,mH,mG,mJ,hI2,hN2,hS2])
     refine (AppendCompactString_fn _ _ _ ha7.own hB7 (y2.at 0).s (ge2_0.text (.inl rfl)) (by simp only [List.length_append,List.length_nil];omega)).mono ?_
     rintro r8 w8 hc8
     rw [← AL] at hc8
     have ha8:=ha7.trans hc8
     have hB8:B≤w8.heap.size:=Nat.le_trans hB ha8.upd.size
     have hv_8:=ha8.upd.blk_some hv hdv
     have fA:=ha8.upd.blk_some hx1 cJ
     have E3:=ha8.upd.blk_some hx2 eI
     repeat ((first|refine qA ?_|apply qB|refine qC ?_|apply qD|apply qE|apply qF|apply qG|apply qH);try simp (disch:=omega) only [go_sem,↓reduceIte,n0,reduceCtorEq,hv_8,fA,E3,cO,cP,cM,eF,dN,eE,fV,jT,kA,kB,kC,kD,kE,kF,kG,kH,jU,jV,jW,jX,jY,jZ,k7,k9,gI,fze2_1_0,fze2_1_1,fze2_1_2,fze2_1_3,fze2_1_4,fze2_1_5,fze2_1_6,fze2_1_7,fze2_1_8,fze2_1_9,fze2_1_10,fze2_1_11,fze2_1_12,fze2_1_13,fze2_1_14,fze2_1_15,kQ,fN,fO,fP,fQ,mI,mH,mG,mJ,hI2,hN2,hS2])
     refine (AppendCompactArrayLen_fn _ _ _ ha8.own hB8 (y2.at 2).l.length BS (by simp only [List.length_append,List.length_nil];omega)).mono ?_
     rintro r9 w9 hc9
     rw [← uW] at hc9
     have ha9:=ha8.trans hc9
     have hB9:B≤w9.heap.size:=Nat.le_trans hB ha9.upd.size
     have hv_9:=ha9.upd.blk_some hv hdv
     have gE:=ha9.upd.blk_some hx1 cJ
     have E4:=ha9.upd.blk_some hx2 eI
     repeat ((first|refine qA ?_|apply qB|refine qC ?_|apply qD|apply qE|apply qF|apply qG|apply qH);try simp (disch:=omega) only [go_sem,↓reduceIte,n0,reduceCtorEq,hv_9,gE,E4,cO,cP,cM,eF,dN,eE,fV,jT,kA,kB,kC,kD,kE,kF,kG,kH,jU,jV,jW,jX,jY,jZ,k7,k9,gI,fze2_1_0,fze2_1_1,fze2_1_2,fze2_1_3,fze2_1_4,fze2_1_5,fze2_1_6,fze2_1_7,fze2_1_8,fze2_1_9,fze2_1_10,fze2_1_11,fze2_1_12,fze2_1_13,fze2_1_14,fze2_1_15,kQ,fN,fO,fP,fQ,mI,mH,mG,mJ,hI2,hN2,hS2])
     have GM:=ha9
     refine W.exitJ 8 (fun ρ w'=>∃ r,ρ 1=r∧ρ 0 = .pointer (some ⟨vb,0,none⟩)∧ρ 5 = .int .i16 ver∧ρ 6 = .bool true∧ρ 166 = .int .i64 j1∧ρ 165 = .int .i64 (t.at 2).l.length∧ρ 15 = .slice (some ⟨b1,o1,none⟩) (t.at 2).l.length ac_2∧ρ 17 = .pointer (some ⟨b1,o1+j1 * 5,none⟩)∧ρ 224 = .int .i64 j2∧ρ 223 = .int .i64 Le1_3.length∧ρ 21 = .slice (some ⟨b2,o2,none⟩) Le1_3.length ace1_3∧ρ 23 = .pointer (some ⟨b2,o2+j2 * 19,none⟩)∧AppR 5 B w v s (([]++XL_2++T1++Xe1_0++Xe1_1++Xe1_2++XLe1_3++T2++Xe2_0++XLe2_2)++XEe2_2) r w')
      (W.loop (fun ρ w'=>∃ (j:Nat) (r:Value),j≤(y2.at 2).l.length∧ρ 271 = .int .i64 j∧ρ 270 = .int .i64 (y2.at 2).l.length∧ρ 26 = .slice abe2_2 (y2.at 2).l.length ace2_2∧ρ 1=r∧ρ 0 = .pointer (some ⟨vb,0,none⟩)∧ρ 5 = .int .i16 ver∧ρ 6 = .bool true∧ρ 166 = .int .i64 j1∧ρ 165 = .int .i64 (t.at 2).l.length∧ρ 15 = .slice (some ⟨b1,o1,none⟩) (t.at 2).l.length ac_2∧ρ 17 = .pointer (some ⟨b1,o1+j1 * 5,none⟩)∧ρ 224 = .int .i64 j2∧ρ 223 = .int .i64 Le1_3.length∧ρ 21 = .slice (some ⟨b2,o2,none⟩) Le1_3.length ace1_3∧ρ 23 = .pointer (some ⟨b2,o2+j2 * 19,none⟩)∧AppR 5 B w v s (([]++XL_2++T1++Xe1_0++Xe1_1++Xe1_2++XLe1_3++T2++Xe2_0++XLe2_2)++((y2.at 2).l.take j).flatMap (fun x:Tree=>fixedS x.n 4)) r w')
       (fun ρ _=>(y2.at 2).l.length - (RowKit.intOf (ρ 271)).toNat) ?_ ?_) ?_
     ·refine ⟨0,_,Nat.zero_le _,?_,?_,?_,?_,?_,?_,?_,?_,?_,?_,?_,?_,?_,?_,?_,ha9.eqs (by rw [List.take_zero,List.flatMap_nil,List.append_nil])⟩<;>simp (disch:=omega) only [go_sem,↓reduceIte,n0,reduceCtorEq,fN,fO,fP,fQ,mI,mH,mG,mJ,hI2,hN2,hS2]
      all_goals rfl
     ·rintro ρ w10 ⟨j3,r10,hj3,hI3,hN3,hS3,jN,jO,jP,jQ,rR,rQ,rP,rS,rV,rU,rT,rW,fC⟩
      have yH:B≤w10.heap.size:=Nat.le_trans hB fC.upd.size
      have hv_10:=fC.upd.blk_some hv hdv
      have jL:=fC.upd.blk_some hx1 cJ
      have yD:=fC.upd.blk_some hx2 eI
      by_cases hlt3:j3 < (y2.at 2).l.length
      ·obtain ⟨_,b3,o3,x3,ce3,hb3,BV,hx3,AW,HL,HK,hq3,A4⟩:=SlR.get (size:=1) (by decide) wD hlt3
       subst hb3
       have vC:(y2.at 2).l.take (j3+1)=(y2.at 2).l.take j3++[(y2.at 2).l[j3]]:=List.take_succ_eq_append_getElem hlt3
       have mN:=take_flatMap_len (y2.at 2).l (fun x:Tree=>fixedS x.n 4) (j3+1)
       rw [← qZ,vC,List.flatMap_append,List.flatMap_cons,List.flatMap_nil,List.append_nil] at mN
       have GP:=vH.2 _ (List.getElem_mem hlt3)
       generalize (y2.at 2).l[j3] = y3 at *
       have vX:=hd b3 AW BV
       obtain ⟨T3,uF⟩:∃ T,T=((y2.at 2).l.take j3).flatMap (fun x:Tree=>fixedS x.n 4):=⟨_,rfl⟩
       rw [← uF] at fC mN
       have K6:=fC.upd.blk_some hx3 vX
       obtain rfl:=(Rep1_num (by decide)).1 A4
       have BZ:x3.1[o3+j3]? = some (.int .i32 (IntKind.i32.wrap y3.n)):=by have:=hq3 0 (by decide);rw [Nat.mul_one] at this;exact this
       obtain ⟨Y3,hY3⟩:∃ Y,Y=fixedS (y3).n 4:=⟨_,rfl⟩
       replace mN:(T3++Y3).length≤XEe2_2.length:=by rw [hY3];exact mN
       simp only [List.length_append] at mN
       repeat ((first|refine qA ?_|apply qB|refine qC ?_|apply qD|apply qE|apply qF|apply qG|apply qH);try simp (disch:=omega) only [go_sem,↓reduceIte,n0,reduceCtorEq,hv_10,jL,yD,K6,cO,cP,cM,eF,dN,eE,fV,jT,kA,kB,kC,kD,kE,kF,kG,kH,jU,jV,jW,jX,jY,jZ,k7,k9,gI,fze2_1_0,fze2_1_1,fze2_1_2,fze2_1_3,fze2_1_4,fze2_1_5,fze2_1_6,fze2_1_7,fze2_1_8,fze2_1_9,fze2_1_10,fze2_1_11,fze2_1_12,fze2_1_13,fze2_1_14,fze2_1_15,kQ,BZ,jN,jO,jP,jQ,rR,rQ,rP,rS,rV,rU,rT,rW,hI3,hN3,hS3])
       refine (AppendInt32_fn _ _ _ fC.own yH _ (by simp only [List.length_append,List.length_nil];omega)).mono ?_
       rintro r11 w11 AX
       rw [wrap32,← hY3] at AX
       have eW:=fC.trans AX
       have uA:B≤w11.heap.size:=Nat.le_trans hB eW.upd.size
       have hv_11:=eW.upd.blk_some hv hdv
       have kT:=eW.upd.blk_some hx1 cJ
       have tS:=eW.upd.blk_some hx2 eI
       have HF:=eW.upd.blk_some hx3 vX
       repeat ((first|refine qA ?_|apply qB|refine qC ?_|apply qD|apply qE|apply qF|apply qG|apply qH);try simp (disch:=omega) only [go_sem,↓reduceIte,n0,reduceCtorEq,jN,jO,jP,jQ,rR,rQ,rP,rS,rV,rU,rT,rW,hI3,hN3,hS3])
       refine ⟨⟨j3+1,_,by omega,rfl,rfl,eW.eqs ?_⟩,?_⟩
       ·rw [vC,List.flatMap_append,List.flatMap_cons,List.flatMap_nil,List.append_nil,← uF,hY3];simp only [List.append_assoc,List.append_nil,List.nil_append]
       ·simp only [RowKit.intOf];omega
      ·have BF:j3=(y2.at 2).l.length:=by omega
       subst BF
       rw [List.take_length,← qZ] at fC
       repeat ((first|refine qA ?_|apply qB|refine qC ?_|apply qD|apply qE|apply qF|apply qG|apply qH);try simp (disch:=omega) only [go_sem,↓reduceIte,n0,reduceCtorEq,hI3,hN3])
       exact ⟨_,jN,jO,jP,jQ,rR,rQ,rP,rS,rV,rU,rT,rW,fC⟩
     ·rintro ρ w12 ⟨r12,gJ,gK,gL,gM,oD,oC,oB,oE,oH,oG,oF,oI,fE⟩
      have wO:B≤w12.heap.size:=Nat.le_trans hB fE.upd.size
      have hv_12:=fE.upd.blk_some hv hdv
      have qO:=fE.upd.blk_some hx1 cJ
      have wF:=fE.upd.blk_some hx2 eI
      repeat ((first|refine qA ?_|apply qB|refine qC ?_|apply qD|apply qE|apply qF|apply qG|apply qH);try simp (disch:=omega) only [go_sem,↓reduceIte,n0,reduceCtorEq,hv_12,qO,wF,cO,cP,cM,eF,dN,eE,fV,jT,kA,kB,kC,kD,kE,kF,kG,kH,jU,jV,jW,jX,jY,jZ,k7,k9,gI,fze2_1_0,fze2_1_1,fze2_1_2,fze2_1_3,fze2_1_4,fze2_1_5,fze2_1_6,fze2_1_7,fze2_1_8,fze2_1_9,fze2_1_10,fze2_1_11,fze2_1_12,fze2_1_13,fze2_1_14,fze2_1_15,kQ,gJ,gK,gL,gM,oD,oC,oB,oE,oH,oG,oF,oI])
      have yP:TagsM (OkS okM w.heap.size) w12 (.map qme2) y2.u:=(qU.weaken fun b h1 h2=>⟨h2,h1⟩).keep (fE.upd.keeps fun b hb hk=>hd b hb hk.1)
      refine (TagsLen_fn (ok:=OkS okM w.heap.size) w12 wF (to:=o2+(j2 * 19+18)) gI yP).mono ?_
      rintro _ w12' ⟨rfl,rfl⟩
      have K2:y2.u.length≤32767:=mE.1
      have ew12:IntKind.u32.wrap (y2.u.length:Int)=y2.u.length:=u32_wrap (by omega)
      have ez12:IntKind.u32.wrap (0+(y2.u.length:Int))=y2.u.length:=by rw [Int.zero_add,u32_wrap (by omega)]
      simp (disch:=omega) only [go_sem,↓reduceIte,n0,reduceCtorEq,hv_12,qO,wF,cO,cP,cM,eF,dN,eE,fV,jT,kA,kB,kC,kD,kE,kF,kG,kH,jU,jV,jW,jX,jY,jZ,k7,k9,gI,fze2_1_0,fze2_1_1,fze2_1_2,fze2_1_3,fze2_1_4,fze2_1_5,fze2_1_6,fze2_1_7,fze2_1_8,fze2_1_9,fze2_1_10,fze2_1_11,fze2_1_12,fze2_1_13,fze2_1_14,fze2_1_15,kQ,gJ,gK,gL,gM,oD,oC,oB,oE,oH,oG,oF,oI,ew12,ez12]
      refine (AppendUvarint_fn _ _ _ fE.own wO y2.u.length (by omega) (by simp only [List.length_append,List.length_nil];omega)).mono ?_
      rintro r13 w13 vA
      rw [← uY] at vA
      have eZ:=fE.trans vA
      have uC:B≤w13.heap.size:=Nat.le_trans hB eZ.upd.size
      have hv_13:=eZ.upd.blk_some hv hdv
      have qP:=eZ.upd.blk_some hx1 cJ
      have hZ:=eZ.upd.blk_some hx2 eI
      repeat ((first|refine qA ?_|apply qB|refine qC ?_|apply qD|apply qE|apply qF|apply qG|apply qH);try simp (disch:=omega) only [go_sem,↓reduceIte,n0,reduceCtorEq,hv_13,qP,hZ,cO,cP,cM,eF,dN,eE,fV,jT,kA,kB,kC,kD,kE,kF,kG,kH,jU,jV,jW,jX,jY,jZ,k7,k9,gI,fze2_1_0,fze2_1_1,fze2_1_2,fze2_1_3,fze2_1_4,fze2_1_5,fze2_1_6,fze2_1_7,fze2_1_8,fze2_1_9,fze2_1_10,fze2_1_11,fze2_1_12,fze2_1_13,fze2_1_14,fze2_1_15,kQ,gJ,gK,gL,gM,oD,oC,oB,oE,oH,oG,oF,oI])
      have tU:TagsM (OkS okM w.heap.size) w13 (.map qme2) y2.u:=(qU.weaken fun b h1 h2=>⟨h2,h1⟩).keep (eZ.upd.keeps fun b hb hk=>hd b hb hk.1)
      refine (AppendEach_fn (ok:=OkS okM w.heap.size) _ _ _ eZ.own uC hZ (to:=o2+(j2 * 19+18)) gI tU (rising_keys mE) mE.1 (tags_small mE tU) (hdK eZ) (ownK eZ (blk_lt hx2) eI) (by simp only [List.length_append,List.length_nil];omega)).mono ?_
      rintro r14 w14 rC
      rw [← uX] at rC
      have iB:=eZ.trans rC
      have zO:B≤w14.heap.size:=Nat.le_trans hB iB.upd.size
      have hv_14:=iB.upd.blk_some hv hdv
      have CD:=iB.upd.blk_some hx1 cJ
      have m7:=iB.upd.blk_some hx2 eI
      repeat ((first|refine qA ?_|apply qB|refine qC ?_|apply qD|apply qE|apply qF|apply qG|apply qH);try simp (disch:=omega) only [go_sem,↓reduceIte,n0,reduceCtorEq,gJ,gK,gL,gM,oD,oC,oB,oE,oH,oG,oF,oI])
      refine ⟨⟨j2+1,_,by omega,rfl,rfl,iB.eqs ?_⟩,?_⟩
      ·rw [lH,List.flatMap_append,List.flatMap_cons,List.flatMap_nil,List.append_nil,← l9,uE];simp only [List.append_assoc,List.append_nil,List.nil_append]
      ·simp only [RowKit.intOf];omega
    ·have pK:j2=Le1_3.length:=by omega
     subst pK
     rw [List.take_length,← qY] at ha7
     repeat ((first|refine qA ?_|apply qB|refine qC ?_|apply qD|apply qE|apply qF|apply qG|apply qH);try simp (disch:=omega) only [go_sem,↓reduceIte,n0,reduceCtorEq,hI2,hN2])
     exact ⟨_,fN,fO,fP,fQ,mI,mH,mG,mJ,ha7⟩
   ·rintro ρ w15 ⟨r15,dJ,oJ,oO,oP,oM,oL,oK,oN,mC⟩
    have EC:B≤w15.heap.size:=Nat.le_trans hB mC.upd.size
    have hv_15:=mC.upd.blk_some hv hdv
    have CE:=mC.upd.blk_some hx1 cJ
    repeat ((first|refine qA ?_|apply qB|refine qC ?_|apply qD|apply qE|apply qF|apply qG|apply qH);try simp (disch:=omega) only [go_sem,↓reduceIte,n0,reduceCtorEq,hv_15,CE,cO,cP,cM,eF,dN,eE,dJ,oJ,oO,oP,oM,oL,oK,oN])
    have IZ:TagsM (OkS okM w.heap.size) w15 (.map qme1) y1.u:=(jS.weaken fun b h1 h2=>⟨h2,h1⟩).keep (mC.upd.keeps fun b hb hk=>hd b hb hk.1)
    refine (TagsLen_fn (ok:=OkS okM w.heap.size) w15 CE (to:=o1+(j1 * 5+4)) dN IZ).mono ?_
    rintro _ w15' ⟨rfl,rfl⟩
    have KH:y1.u.length≤32767:=fT.1
    have ew15:IntKind.u32.wrap (y1.u.length:Int)=y1.u.length:=u32_wrap (by omega)
    have ez15:IntKind.u32.wrap (0+(y1.u.length:Int))=y1.u.length:=by rw [Int.zero_add,u32_wrap (by omega)]
    simp (disch:=omega) only [go_sem,↓reduceIte,n0,reduceCtorEq,hv_15,CE,cO,cP,cM,eF,dN,eE,dJ,oJ,oO,oP,oM,oL,oK,oN,ew15,ez15]
    refine (AppendUvarint_fn _ _ _ mC.own EC y1.u.length (by omega) (by simp only [List.length_append,List.length_nil];omega)).mono ?_
    rintro r16 w16 hc16
    rw [← o9] at hc16
    have lF:=mC.trans hc16
    have zP:B≤w16.heap.size:=Nat.le_trans hB lF.upd.size
    have hv_16:=lF.upd.blk_some hv hdv
    have m6:=lF.upd.blk_some hx1 cJ
    repeat ((first|refine qA ?_|apply qB|refine qC ?_|apply qD|apply qE|apply qF|apply qG|apply qH);try simp (disch:=omega) only [go_sem,↓reduceIte,n0,reduceCtorEq,hv_16,m6,cO,cP,cM,eF,dN,eE,dJ,oJ,oO,oP,oM,oL,oK,oN])
    have DE:TagsM (OkS okM w.heap.size) w16 (.map qme1) y1.u:=(jS.weaken fun b h1 h2=>⟨h2,h1⟩).keep (lF.upd.keeps fun b hb hk=>hd b hb hk.1)
    refine (AppendEach_fn (ok:=OkS okM w.heap.size) _ _ _ lF.own zP m6 (to:=o1+(j1 * 5+4)) dN DE (rising_keys fT) fT.1 (tags_small fT DE) (hdK lF) (ownK lF (blk_lt hx1) cJ) (by simp only [List.length_append,List.length_nil];omega)).mono ?_
    rintro r17 w17 vB
    rw [← o8] at vB
    have lN:=lF.trans vB
    have D1:B≤w17.heap.size:=Nat.le_trans hB lN.upd.size
    have hv_17:=lN.upd.blk_some hv hdv
    have nU:=lN.upd.blk_some hx1 cJ
    repeat ((first|refine qA ?_|apply qB|refine qC ?_|apply qD|apply qE|apply qF|apply qG|apply qH);try simp (disch:=omega) only [go_sem,↓reduceIte,n0,reduceCtorEq,dJ,oJ,oO,oP,oM,oL,oK,oN])
    refine ⟨⟨j1+1,_,by omega,rfl,rfl,lN.eqs ?_⟩,?_⟩
    ·rw [lG,List.flatMap_append,List.flatMap_cons,List.flatMap_nil,List.append_nil,← l8,l7];simp only [List.append_assoc,List.append_nil,List.nil_append]
    ·simp only [RowKit.intOf];omega
  ·have pJ:j1=(t.at 2).l.length:=by omega
   subst pJ
   rw [List.take_length,← hXE_2] at ha2
   repeat ((first|refine qA ?_|apply qB|refine qC ?_|apply qD|apply qE|apply qF|apply qG|apply qH);try simp (disch:=omega) only [go_sem,↓reduceIte,n0,reduceCtorEq,hI1,hN1])
   exact ⟨_,eH,eG,dJ,dI,ha2⟩
 ·rintro ρ w18 ⟨r18,dI,mK,mL,mM,mD⟩
  have D2:B≤w18.heap.size:=Nat.le_trans hB mD.upd.size
  have hv_18:=mD.upd.blk_some hv hdv
  repeat ((first|refine qA ?_|apply qB|refine qC ?_|apply qD|apply qE|apply qF|apply qG|apply qH);try simp (disch:=omega) only [go_sem,↓reduceIte,n0,reduceCtorEq,hv_18,dI,mK,mL,mM])
  refine (AppendBool_fn _ _ _ mD.own D2 _ (by simp only [List.length_append,List.length_nil];omega)).mono ?_
  rintro r19 w19 B0
  rw [← hXX_3] at B0
  have oA:=mD.trans B0
  have D3:B≤w19.heap.size:=Nat.le_trans hB oA.upd.size
  have hv_19:=oA.upd.blk_some hv hdv
  repeat ((first|refine qA ?_|apply qB|refine qC ?_|apply qD|apply qE|apply qF|apply qG|apply qH);try simp (disch:=omega) only [go_sem,↓reduceIte,n0,reduceCtorEq,hv_19,dI,mK,mL,mM])
  have J0:TagsM (OkS okM w.heap.size) w19 (.map qm) t.u:=(hT.weaken fun b h1 h2=>⟨h2,h1⟩).keep (oA.upd.keeps fun b hb hk=>hd b hb hk.1)
  refine (TagsLen_fn (ok:=OkS okM w.heap.size) w19 hv_19 (to:=5) (show (#[.int .i16 ver,strV (t.at 0).s,p_1,.slice ab_2 (t.at 2).l.length ac_2,.bool (decide ((t.at 3).n % 2=1)),.map qm]:Array Value)[5]? = some (.map qm) from rfl) J0).mono ?_
  rintro _ w19' ⟨rfl,rfl⟩
  have KK:t.u.length≤32767:=hfu.1
  have ew19:IntKind.u32.wrap (t.u.length:Int)=t.u.length:=u32_wrap (by omega)
  have ez19:IntKind.u32.wrap (0+(t.u.length:Int))=t.u.length:=by rw [Int.zero_add,u32_wrap (by omega)]
  simp (disch:=omega) only [go_sem,↓reduceIte,n0,reduceCtorEq,hv_19,dI,mK,mL,mM,ew19,ez19]
  refine (AppendUvarint_fn _ _ _ oA.own D3 t.u.length (by omega) (by simp only [List.length_append,List.length_nil];omega)).mono ?_
  rintro r20 w20 B4
  rw [← hXU] at B4
  have pD:=oA.trans B4
  have ED:B≤w20.heap.size:=Nat.le_trans hB pD.upd.size
  have hv_20:=pD.upd.blk_some hv hdv
  repeat ((first|refine qA ?_|apply qB|refine qC ?_|apply qD|apply qE|apply qF|apply qG|apply qH);try simp (disch:=omega) only [go_sem,↓reduceIte,n0,reduceCtorEq,hv_20,dI,mK,mL,mM])
  have DG:TagsM (OkS okM w.heap.size) w20 (.map qm) t.u:=(hT.weaken fun b h1 h2=>⟨h2,h1⟩).keep (pD.upd.keeps fun b hb hk=>hd b hb hk.1)
  refine (AppendEach_fn (ok:=OkS okM w.heap.size) _ _ _ pD.own ED hv_20 (to:=5) (show (#[.int .i16 ver,strV (t.at 0).s,p_1,.slice ab_2 (t.at 2).l.length ac_2,.bool (decide ((t.at 3).n % 2=1)),.map qm]:Array Value)[5]? = some (.map qm) from rfl) DG (rising_keys hfu) hfu.1 (tags_small hfu DG) (hdK pD) (ownK pD (blk_lt hv) hdv) (by simp only [List.length_append,List.length_nil];omega)).mono ?_
  rintro r21 w21 B5
  rw [← hXT] at B5
  have rA:=pD.trans B5
  have FL:B≤w21.heap.size:=Nat.le_trans hB rA.upd.size
  have hv_21:=rA.upd.blk_some hv hdv
  repeat ((first|refine qA ?_|apply qB|refine qC ?_|apply qD|apply qE|apply qF|apply qG|apply qH);try simp (disch:=omega) only [go_sem,↓reduceIte,n0,reduceCtorEq,hv_21,dI,mK,mL,mM])
  refine rA.eqs ?_
  rw [hP];simp only [List.append_assoc,List.append_nil,List.nil_append]
end Ms

