/- A part of the proof: see the last text. -/
import Derived.Test.YtfabfglflkggeaaGreatDoorC07
import Derived.Test.YtfabfglflkggeaaGreatDoorC10
import Derived.Test.YtfabfglflkggeaaGreatDoorOffsetFetchRequestP0
import Derived.Test.YtfabfglflkggeaaGreatDoorOffsetFetchRequestP1
import Derived.Test.YtfabfglflkggeaaGreatDoorOffsetFetchRequestP2
import Derived.Test.YtfabfglflkggeaaGreatDoorOffsetFetchRequestP3
import Derived.Test.YtfabfglflkggeaaGreatDoorOffsetFetchRequestP4
import Derived.Test.YtfabfglflkggeaaGreatDoorOffsetFetchRequestP5
import Derived.Test.YtfabfglflkggeaaGreatDoorOffsetFetchRequestP6
set_option linter.unusedSimpArgs false
set_option linter.unusedVariables false
namespace Ms
open Go.World renaming size_alloc → qI
open Ms renaming size_wr → qJ,size_drew → qK,not_noB → qL
open W renaming seqF → qA,seq → qB,regF → qC,condK → qD,block → qE,skip → qF,ret → qG,exit → qH
open Nat renaming reduceEqDiff → n0,reduceAdd → n1,reduceMul → n2,reduceSub → n3,reduceLT → n4,reduceLeDiff → n5
open Int renaming reduceEq → i0,reduceLT → i1,reduceLE → i2,reduceNeg → i3,reduceAdd → i4,reduceSub → i5,reduceMul → i6,reduceToNat → i7
set_option maxRecDepth 8000
open Go Go.Proofs Go.Shelf
attribute [local congr] W_congr WPsq_congr WPp_congr optK_congr addrK_congr intK_congr boolK_congr sliceK_congr tupleK_congr funcK_congr Fn_congr rawK_congr takeK_congr stepK_congr convK_congr aggK_congr

theorem ReadFromQ_fn {d:Nat} {ok:Blocks} {ver:Int} {ev:Value} (hlo:0≤ver) (hhi:ver≤10) (w:World) {vb:Nat} (src:Value) (s:List UInt8) (hv:blk w vb=some (#[.int .i16 ver,.string ByteArray.empty,.slice none 0 0,.slice none 0 0,.bool false,.map none],63,(0,0))) (hsrc:BytesV ok w src s) (iC:∀ b,ok b→b < w.heap.size∧b≠vb) (hG:Glo ev w) (hgv:¬ 1=vb∧¬ 0=vb) :
  Fn Tryz.prog 18 #[.pointer (some ⟨vb,0,none⟩),src] w (ReadQ 63 ok ver (d+3) fsr_Q vb w (rdP (d+3) ver (flexB 6 ver) fsr_Q (some s)) ev):=by
 obtain ⟨sa,sc,rfl,_⟩:=hsrc.shape
 refine fn_of_W Tryz.func18 rfl Tryz.results18 Tryz.ntmps18 rfl ?_
 repeat ((first|refine qA ?_|apply qB|refine qC ?_|apply qD|apply qE|apply qF|apply qG|apply qH);try simp (disch:=omega) only [go_sem,↓reduceIte,n0,reduceCtorEq,n1,n2,i3,i4,i5,i6,i7])
 have hcl:(0≤ver∧ver≤1)∨(2≤ver∧ver≤5)∨(6≤ver∧ver≤6)∨(7≤ver∧ver≤7)∨(8≤ver∧ver≤8)∨(9≤ver∧ver≤9)∨(10≤ver∧ver≤10):=by omega
 rcases hcl with ⟨h1,h2⟩|⟨h1,h2⟩|⟨h1,h2⟩|⟨h1,h2⟩|⟨h1,h2⟩|⟨h1,h2⟩|⟨h1,h2⟩
 ·have hfl:flexB 6 ver=false:=by simp only [flexB,Bool.and_eq_false_iff,decide_eq_false_iff_not];omega
  rw [hfl]
  refine (readQ_0 (d:=d) h1 h2 w _ s hv hsrc iC hG hgv).mono ?_
  rintro r5 w5 h5
  repeat ((first|refine qA ?_|apply qB|refine qC ?_|apply qD|apply qE|apply qF|apply qG|apply qH);try simp (disch:=omega) only [go_sem,↓reduceIte,n0,reduceCtorEq,n1,n2,i3,i4,i5,i6,i7])
  all_goals exact h5
 ·have hfl:flexB 6 ver=false:=by simp only [flexB,Bool.and_eq_false_iff,decide_eq_false_iff_not];omega
  rw [hfl]
  refine (readQ_1 (d:=d) h1 h2 w _ s hv hsrc iC hG hgv).mono ?_
  rintro r5 w5 h5
  repeat ((first|refine qA ?_|apply qB|refine qC ?_|apply qD|apply qE|apply qF|apply qG|apply qH);try simp (disch:=omega) only [go_sem,↓reduceIte,n0,reduceCtorEq,n1,n2,i3,i4,i5,i6,i7])
  all_goals exact h5
 ·have hfl:flexB 6 ver=true:=by simp only [flexB,Bool.and_eq_true,decide_eq_true_eq];omega
  rw [hfl]
  refine (readQ_2 (d:=d) h1 h2 w _ s hv hsrc iC hG hgv).mono ?_
  rintro r5 w5 h5
  repeat ((first|refine qA ?_|apply qB|refine qC ?_|apply qD|apply qE|apply qF|apply qG|apply qH);try simp (disch:=omega) only [go_sem,↓reduceIte,n0,reduceCtorEq,n1,n2,i3,i4,i5,i6,i7])
  all_goals exact h5
 ·have hfl:flexB 6 ver=true:=by simp only [flexB,Bool.and_eq_true,decide_eq_true_eq];omega
  rw [hfl]
  refine (readQ_3 (d:=d) h1 h2 w _ s hv hsrc iC hG hgv).mono ?_
  rintro r5 w5 h5
  repeat ((first|refine qA ?_|apply qB|refine qC ?_|apply qD|apply qE|apply qF|apply qG|apply qH);try simp (disch:=omega) only [go_sem,↓reduceIte,n0,reduceCtorEq,n1,n2,i3,i4,i5,i6,i7])
  all_goals exact h5
 ·have hfl:flexB 6 ver=true:=by simp only [flexB,Bool.and_eq_true,decide_eq_true_eq];omega
  rw [hfl]
  refine (readQ_4 (d:=d) h1 h2 w _ s hv hsrc iC hG hgv).mono ?_
  rintro r5 w5 h5
  repeat ((first|refine qA ?_|apply qB|refine qC ?_|apply qD|apply qE|apply qF|apply qG|apply qH);try simp (disch:=omega) only [go_sem,↓reduceIte,n0,reduceCtorEq,n1,n2,i3,i4,i5,i6,i7])
  all_goals exact h5
 ·have hfl:flexB 6 ver=true:=by simp only [flexB,Bool.and_eq_true,decide_eq_true_eq];omega
  rw [hfl]
  refine (readQ_5 (d:=d) h1 h2 w _ s hv hsrc iC hG hgv).mono ?_
  rintro r5 w5 h5
  repeat ((first|refine qA ?_|apply qB|refine qC ?_|apply qD|apply qE|apply qF|apply qG|apply qH);try simp (disch:=omega) only [go_sem,↓reduceIte,n0,reduceCtorEq,n1,n2,i3,i4,i5,i6,i7])
  all_goals exact h5
 ·have hfl:flexB 6 ver=true:=by simp only [flexB,Bool.and_eq_true,decide_eq_true_eq];omega
  rw [hfl]
  refine (readQ_6 (d:=d) h1 h2 w _ s hv hsrc iC hG hgv).mono ?_
  rintro r5 w5 h5
  repeat ((first|refine qA ?_|apply qB|refine qC ?_|apply qD|apply qE|apply qF|apply qG|apply qH);try simp (disch:=omega) only [go_sem,↓reduceIte,n0,reduceCtorEq,n1,n2,i3,i4,i5,i6,i7])
  all_goals exact h5


set_option maxHeartbeats 4000000 in
theorem appQ_0 {d B:Nat} {okM:Blocks} {ver:Int} (hlo:0≤ver) (hhi:ver≤1) (t:Tree) (cells:List Value) (v:Value) (s:List UInt8) (w:World) {vb:Nat} (ho:OwnBy 5 B w v s) (hB:B≤w.heap.size) (hvb:blk w vb=some ((.int .i16 ver :: cells).toArray,63,(0,0)))
  (hR:RepS true (d+3) fsr_Q okM w t cells) (hfit:FitW ver (d+3) fsr_Q t) (hd:∀ b,b < w.heap.size→okM b→¬ ownB v b) (hdv:¬ ownB v vb) (hlen:s.length+(partS (d+3) fsr_Q ver false t).length≤2 ^ 41) :
  Fn Tryz.prog 19 #[.pointer (some ⟨vb,0,none⟩),v] w fun r w'=>AppR 5 B w v s (partS (d+3) fsr_Q ver false t) r w':=by
 obtain ⟨⟨g_0,g_1,g_2,g_3,-⟩,hfu⟩:=hfit
 replace g_0:hasS fQ_0 ver=true→FitWF (FitW ver (d+2)) ver fQ_0 (t.at 0):=g_0
 have hh_0:hasS fQ_0 ver=true:=hasS_t (by show (0:Int)≤ver;omega) (by show (7:Int) < 0∨ver≤(7:Int);omega)
 replace g_0:=g_0 hh_0
 replace g_1:hasS fQ_1 ver=true→FitWF (FitW ver (d+2)) ver fQ_1 (t.at 1):=g_1
 have hh_1:hasS fQ_1 ver=true:=hasS_t (by show (0:Int)≤ver;omega) (by show (7:Int) < 0∨ver≤(7:Int);omega)
 replace g_1:=g_1 hh_1
 replace g_2:hasS frQ_2 ver=true→FitWF (FitW ver (d+2)) ver frQ_2 (t.at 2):=g_2
 have hh_2:hasS frQ_2 ver=false:=hasS_f (by show ver < 8∨(0≤(-1:Int)∧(-1:Int) < ver);omega)
 clear g_2
 replace g_3:hasS fQ_3 ver=true→FitWF (FitW ver (d+2)) ver fQ_3 (t.at 3):=g_3
 have hh_3:hasS fQ_3 ver=false:=hasS_f (by show ver < 7∨(0≤(-1:Int)∧(-1:Int) < ver);omega)
 clear g_3
 obtain ⟨cs,q,hcs,hL,hT⟩:=hR.inv
 obtain ⟨c_0,e_0,rfl,h_0,c_1,e_1,rfl,h_1,c_2,e_2,rfl,h_2,c_3,e_3,rfl,h_3,rfl⟩:=hL
 replace h_0:RepF (RepS true (d+2)) (szS true (d+2)) fQ_0 okM w (t.at 0) c_0:=h_0
 replace h_1:RepF (RepS true (d+2)) (szS true (d+2)) fQ_1 okM w (t.at 1) c_1:=h_1
 replace h_2:RepF (RepS true (d+2)) (szS true (d+2)) frQ_2 okM w (t.at 2) c_2:=h_2
 replace h_3:RepF (RepS true (d+2)) (szS true (d+2)) fQ_3 okM w (t.at 3) c_3:=h_3
 obtain rfl:=(RepF_text rfl (by decide)).1 h_0
 obtain ⟨p_1,L_1,rfl,hLL_1,hs_1,hnn_1⟩:=RepF_listN g_1 rfl (by decide) h_1
 obtain ⟨ab_1,ac_1,rfl,_⟩:=SlR.shape hs_1
 have hni_1:=hnn_1 _ _ _ rfl
 have hgl_1:=g_1.listL rfl hLL_1
 have hll_1:=hgl_1.1
 obtain ⟨p_2,rfl⟩:=RepF_any (by decide) h_2
 obtain rfl:=(RepF_num (by decide)).1 h_3
 obtain ⟨qm,rfl⟩:=hT.shape
 have hv:blk w vb=some (#[.int .i16 ver,strV (t.at 0).s,.slice ab_1 L_1.length ac_1,p_2,.bool (decide ((t.at 3).n % 2=1)),.map qm],63,(0,0)):=by rw [hvb,hcs];rfl
 clear hvb hcs
 obtain ⟨X_0,hXX_0⟩:∃ X,X=fixedS (t.at 0).s.length 2++(t.at 0).s:=⟨_,rfl⟩
 obtain ⟨XL_1,hXL_1⟩:∃ X,X=countedS false (nullS fQ_1 ver (t.at 1)) L_1.length 4:=⟨_,rfl⟩
 obtain ⟨XE_1,hXE_1⟩:∃ X,X=L_1.flatMap (fun x=>partS (d+2) fs_X2 ver false x):=⟨_,rfl⟩
 have hP:partS (d+3) fsr_Q ver false t=X_0++((XL_1++XE_1)++[]):=partS_no (plainL_has (by decide) hh_0 ((fieldS_text_f g_0 rfl (by decide)).trans hXX_0.symm) (plainL_has (by decide) hh_1 ((fieldS_listN (g:=(fun x=>partS (d+2) fs_X2 ver false x)) g_1 rfl hLL_1 (fun x _=>valueS_part)).trans (by rw [hXL_1,hXE_1])) (plainL_not hh_2 (plainL_not hh_3 rfl))))
 rw [hP] at hlen
 simp only [List.length_append,List.length_nil] at hlen
 have hdK:∀ {r:Value} {w':World} {add:List UInt8},AppR 5 B w v s add r w'→∀ b,b < w'.heap.size→OkS okM w.heap.size b→¬ ownB r b:=fun h b _ hk ho=>(h.frame b ho).elim (hd b hk.2 hk.1) (fun h=>by have:=hk.2;omega)
 have ownK:∀ {r:Value} {w':World} {add:List UInt8} {b:Nat},AppR 5 B w v s add r w'→b < w.heap.size→¬ ownB v b→¬ ownB r b:=fun h hb hn ho=>(h.frame _ ho).elim hn (fun h=>by omega)
 have ha0:AppR 5 B w v s [] v w:=AppR.refl ho
 obtain ⟨w0,hw0⟩:∃ w0,w0=w:=⟨_,rfl⟩
 have hB0:=hB
 have hv_0:=hv
 refine fn_of_W Tryz.func19 rfl Tryz.results19 Tryz.ntmps19 rfl ?_
 repeat ((first|refine qA ?_|apply qB|refine qC ?_|apply qD|apply qE|apply qF|apply qG|apply qH);try simp (disch:=omega) only [go_sem,↓reduceIte,n0,reduceCtorEq,hv_0,hni_1])
 refine (AppendString_fn _ _ _ ha0.own hB0 (t.at 0).s (g_0.text (.inl rfl)) (by simp only [List.length_append,List.length_nil];omega)).mono ?_
 rintro r1 w1 hc1
 rw [← hXX_0] at hc1
 have ha1:=ha0.trans hc1
 have hB1:B≤w1.heap.size:=Nat.le_trans hB ha1.upd.size
 have hv_1:=ha1.upd.blk_some hv hdv
 repeat ((first|refine qA ?_|apply qB|refine qC ?_|apply qD|apply qE|apply qF|apply qG|apply qH);try simp (disch:=omega) only [go_sem,↓reduceIte,n0,reduceCtorEq,hv_1,hni_1])
 rw [nullS_early (by show ver < (2:Int);omega),counted_some,if_neg (by decide)] at hXL_1
 refine (AppendArrayLen_fn _ _ _ ha1.own hB1 L_1.length hll_1 (by simp only [List.length_append,List.length_nil];omega)).mono ?_
 rintro r2 w2 hc2
 rw [← hXL_1] at hc2
 have ha2:=ha1.trans hc2
 have hB2:B≤w2.heap.size:=Nat.le_trans hB ha2.upd.size
 have hv_2:=ha2.upd.blk_some hv hdv
 repeat ((first|refine qA ?_|apply qB|refine qC ?_|apply qD|apply qE|apply qF|apply qG|apply qH);try simp (disch:=omega) only [go_sem,↓reduceIte,n0,reduceCtorEq,hv_2,hni_1])
 have z1:=ha2
 refine W.exitJ 0 (fun ρ w'=>∃ r,ρ 1=r∧ρ 0 = .pointer (some ⟨vb,0,none⟩)∧ρ 5 = .int .i16 ver∧ρ 6 = .bool false∧AppR 5 B w v s (([]++X_0++XL_1)++XE_1) r w')
  (W.loop (fun ρ w'=>∃ (j:Nat) (r:Value),j≤L_1.length∧ρ 91 = .int .i64 j∧ρ 90 = .int .i64 L_1.length∧ρ 8 = .slice ab_1 L_1.length ac_1∧ρ 1=r∧ρ 0 = .pointer (some ⟨vb,0,none⟩)∧ρ 5 = .int .i16 ver∧ρ 6 = .bool false∧AppR 5 B w v s (([]++X_0++XL_1)++(L_1.take j).flatMap (fun x=>partS (d+2) fs_X2 ver false x)) r w')
   (fun ρ _=>L_1.length - (RowKit.intOf (ρ 91)).toNat) ?_ ?_) ?_
 ·refine ⟨0,_,Nat.zero_le _,?_,?_,?_,?_,?_,?_,?_,ha2.eqs (by rw [List.take_zero,List.flatMap_nil,List.append_nil])⟩<;>simp (disch:=omega) only [go_sem,↓reduceIte,n0,reduceCtorEq]
  all_goals rfl
 ·rintro ρ w3 ⟨j1,r3,hj1,hI1,hN1,hS1,eH,eG,dJ,dI,ha3⟩
  have hB3:B≤w3.heap.size:=Nat.le_trans hB ha3.upd.size
  have hv_3:=ha3.upd.blk_some hv hdv
  by_cases eJ:j1 < L_1.length
  ·obtain ⟨_,b1,o1,x1,ce1,hb1,hok1,hx1,pE,zG,zE,hq1,iF⟩:=SlR.get (size:=3) (by decide) hs_1 eJ
   subst hb1
   have lG:L_1.take (j1+1)=L_1.take j1++[L_1[j1]]:=List.take_succ_eq_append_getElem eJ
   have fI:=take_flatMap_len L_1 (fun x=>partS (d+2) fs_X2 ver false x) (j1+1)
   rw [← hXE_1,lG,List.flatMap_append,List.flatMap_cons,List.flatMap_nil,List.append_nil] at fI
   have pI:=hgl_1.2 _ (List.getElem_mem eJ)
   generalize L_1[j1] = y1 at *
   have cJ:=hd b1 pE hok1
   obtain ⟨T1,l8⟩:∃ T,T=(L_1.take j1).flatMap (fun x=>partS (d+2) fs_X2 ver false x):=⟨_,rfl⟩
   rw [← l8] at ha3 fI
   have pT:=ha3.upd.blk_some hx1 cJ
   replace iF:RepS true (d+2) fs_X2 okM w y1 ce1:=Rep1_part.1 iF
   have pH:FitW ver (d+2) fs_X2 y1:=pI.2 rfl
   obtain ⟨⟨ge1_0,ge1_1,-⟩,fT⟩:=pH
   replace ge1_0:hasS fX2_0 ver=true→FitWF (FitW ver (d+1)) ver fX2_0 (y1.at 0):=ge1_0
   have lI:hasS fX2_0 ver=true:=hasS_t (by show (0:Int)≤ver;omega) (by show (-1:Int) < 0∨ver≤(-1:Int);omega)
   replace ge1_0:=ge1_0 lI
   replace ge1_1:hasS fX2_1 ver=true→FitWF (FitW ver (d+1)) ver fX2_1 (y1.at 1):=ge1_1
   have lO:hasS fX2_1 ver=true:=hasS_t (by show (0:Int)≤ver;omega) (by show (-1:Int) < 0∨ver≤(-1:Int);omega)
   replace ge1_1:=ge1_1 lO
   obtain ⟨cse1,qe1,pG,oZ,jS⟩:=iF.inv
   obtain ⟨ce1_0,ee1_0,rfl,iG,ce1_1,ee1_1,rfl,iH,rfl⟩:=oZ
   replace iG:RepF (RepS true (d+1)) (szS true (d+1)) fX2_0 okM w (y1.at 0) ce1_0:=iG
   replace iH:RepF (RepS true (d+1)) (szS true (d+1)) fX2_1 okM w (y1.at 1) ce1_1:=iH
   obtain rfl:=(RepF_text rfl (by decide)).1 iG
   obtain ⟨pe1_1,rfl,tE⟩:=RepF_listW ge1_1 rfl (by decide) iH
   obtain ⟨abe1_1,ace1_1,rfl,_⟩:=SlR.shape tE
   have rI:=ge1_1.list rfl
   have xU:=rI.1
   obtain ⟨qme1,rfl⟩:=jS.shape
   subst pG
   have cO:x1.1[o1+j1 * 3]? = some (strV (y1.at 0).s):=hq1 0 (by decide)
   have cP:x1.1[o1+(j1 * 3+1)]? = some (.slice abe1_1 (y1.at 1).l.length ace1_1):=hq1 1 (by decide)
   have cM:x1.1[o1+(j1 * 3+2)]? = some (.map qme1):=hq1 2 (by decide)
   obtain ⟨Xe1_0,lE⟩:∃ X,X=fixedS (y1.at 0).s.length 2++(y1.at 0).s:=⟨_,rfl⟩
   obtain ⟨XLe1_1,r0⟩:∃ X,X=fixedS (y1.at 1).l.length 4:=⟨_,rfl⟩
   obtain ⟨XEe1_1,mY⟩:∃ X,X=(y1.at 1).l.flatMap (fun x:Tree=>fixedS x.n 4):=⟨_,rfl⟩
   have l7:partS (d+2) fs_X2 ver false y1=Xe1_0++((XLe1_1++XEe1_1)++[]):=partS_no (plainL_has (by decide) lI ((fieldS_text_f ge1_0 rfl (by decide)).trans lE.symm) (plainL_has (by decide) lO ((fieldS_list_f (g:=(fun x:Tree=>fixedS x.n 4)) ge1_1 rfl (by decide) (fun x _=>valueS_num 3 (by decide))).trans (by rw [r0,mY])) rfl))
   rw [l7] at fI
   simp only [List.length_append,List.length_nil] at fI
   repeat ((first|refine qA ?_|apply qB|refine qC ?_|apply qD|apply qE|apply qF|apply qG|apply qH);try simp (disch:=omega) only [go_sem,↓reduceIte,n0,reduceCtorEq,hv_3,pT,hni_1,cO,cP,cM,eH,eG,dJ,dI,hI1,hN1,hS1])
   refine (AppendString_fn _ _ _ ha3.own hB3 (y1.at 0).s (ge1_0.text (.inl rfl)) (by simp only [List.length_append,List.length_nil];omega)).mono ?_
   rintro r4 w4 hc4
   rw [← lE] at hc4
   have ha4:=ha3.trans hc4
   have hB4:B≤w4.heap.size:=Nat.le_trans hB ha4.upd.size
   have hv_4:=ha4.upd.blk_some hv hdv
   have iD:=ha4.upd.blk_some hx1 cJ
   repeat ((first|refine qA ?_|apply qB|refine qC ?_|apply qD|apply qE|apply qF|apply qG|apply qH);try simp (disch:=omega) only [go_sem,↓reduceIte,n0,reduceCtorEq,hv_4,iD,hni_1,cO,cP,cM,eH,eG,dJ,dI,hI1,hN1,hS1])
   refine (AppendArrayLen_fn _ _ _ ha4.own hB4 (y1.at 1).l.length xU (by simp only [List.length_append,List.length_nil];omega)).mono ?_
   rintro r5 w5 hc5
   rw [← r0] at hc5
   have ha5:=ha4.trans hc5
   have hB5:B≤w5.heap.size:=Nat.le_trans hB ha5.upd.size
   have hv_5:=ha5.upd.blk_some hv hdv
   have kU:=ha5.upd.blk_some hx1 cJ
   repeat ((first|refine qA ?_|apply qB|refine qC ?_|apply qD|apply qE|apply qF|apply qG|apply qH);try simp (disch:=omega) only [go_sem,↓reduceIte,n0,reduceCtorEq,hv_5,kU,hni_1,cO,cP,cM,eH,eG,dJ,dI,hI1,hN1,hS1])
   have z2:=ha5
   refine W.exitJ 2 (fun ρ w'=>∃ r,ρ 1=r∧ρ 0 = .pointer (some ⟨vb,0,none⟩)∧ρ 5 = .int .i16 ver∧ρ 6 = .bool false∧ρ 91 = .int .i64 j1∧ρ 90 = .int .i64 L_1.length∧ρ 8 = .slice (some ⟨b1,o1,none⟩) L_1.length ac_1∧ρ 10 = .pointer (some ⟨b1,o1+j1 * 3,none⟩)∧AppR 5 B w v s (([]++X_0++XL_1++T1++Xe1_0++XLe1_1)++XEe1_1) r w')
    (W.loop (fun ρ w'=>∃ (j:Nat) (r:Value),j≤(y1.at 1).l.length∧ρ 123 = .int .i64 j∧ρ 122 = .int .i64 (y1.at 1).l.length∧ρ 12 = .slice abe1_1 (y1.at 1).l.length ace1_1∧ρ 1=r∧ρ 0 = .pointer (some ⟨vb,0,none⟩)∧ρ 5 = .int .i16 ver∧ρ 6 = .bool false∧ρ 91 = .int .i64 j1∧ρ 90 = .int .i64 L_1.length∧ρ 8 = .slice (some ⟨b1,o1,none⟩) L_1.length ac_1∧ρ 10 = .pointer (some ⟨b1,o1+j1 * 3,none⟩)∧AppR 5 B w v s (([]++X_0++XL_1++T1++Xe1_0++XLe1_1)++((y1.at 1).l.take j).flatMap (fun x:Tree=>fixedS x.n 4)) r w')
     (fun ρ _=>(y1.at 1).l.length - (RowKit.intOf (ρ 123)).toNat) ?_ ?_) ?_
   ·refine ⟨0,_,Nat.zero_le _,?_,?_,?_,?_,?_,?_,?_,?_,?_,?_,?_,ha5.eqs (by rw [List.take_zero,List.flatMap_nil,List.append_nil])⟩<;>simp (disch:=omega) only [go_sem,↓reduceIte,n0,reduceCtorEq,eH,eG,dJ,dI,hI1,hN1,hS1]
    all_goals rfl
   ·rintro ρ w6 ⟨j2,r6,hj2,hI2,hN2,hS2,fN,fO,fP,fQ,nB,nA,n9,n8,ha6⟩
    have hB6:B≤w6.heap.size:=Nat.le_trans hB ha6.upd.size
    have hv_6:=ha6.upd.blk_some hv hdv
    have kV:=ha6.upd.blk_some hx1 cJ
    by_cases hlt2:j2 < (y1.at 1).l.length
    ·obtain ⟨_,b2,o2,x2,ce2,hb2,hok2,hx2,pF,zH,zF,hq2,jM⟩:=SlR.get (size:=1) (by decide) tE hlt2
     subst hb2
     have lH:(y1.at 1).l.take (j2+1)=(y1.at 1).l.take j2++[(y1.at 1).l[j2]]:=List.take_succ_eq_append_getElem hlt2
     have eX:=take_flatMap_len (y1.at 1).l (fun x:Tree=>fixedS x.n 4) (j2+1)
     rw [← mY,lH,List.flatMap_append,List.flatMap_cons,List.flatMap_nil,List.append_nil] at eX
     have tW:=rI.2 _ (List.getElem_mem hlt2)
     generalize (y1.at 1).l[j2] = y2 at *
     have eI:=hd b2 pF hok2
     obtain ⟨T2,l9⟩:∃ T,T=((y1.at 1).l.take j2).flatMap (fun x:Tree=>fixedS x.n 4):=⟨_,rfl⟩
     rw [← l9] at ha6 eX
     have u5:=ha6.upd.blk_some hx2 eI
     obtain rfl:=(Rep1_num (by decide)).1 jM
     have fV:x2.1[o2+j2]? = some (.int .i32 (IntKind.i32.wrap y2.n)):=by have:=hq2 0 (by decide);rw [Nat.mul_one] at this;exact this
     obtain ⟨Y2,hY2⟩:∃ Y,Y=fixedS (y2).n 4:=⟨_,rfl⟩
     replace eX:(T2++Y2).length≤XEe1_1.length:=by rw [hY2];exact eX
     simp only [List.length_append] at eX
     repeat ((first|refine qA ?_|apply qB|refine qC ?_|apply qD|apply qE|apply qF|apply qG|apply qH);try simp (disch:=omega) only [go_sem,↓reduceIte,n0,reduceCtorEq,hv_6,kV,u5,hni_1,cO,cP,cM,fV,fN,fO,fP,fQ,nB,nA,n9,n8,hI2,hN2,hS2])
     refine (AppendInt32_fn _ _ _ ha6.own hB6 _ (by simp only [List.length_append,List.length_nil];omega)).mono ?_
     rintro r7 w7 hc7
     rw [wrap32,← hY2] at hc7
     have ha7:=ha6.trans hc7
     have hB7:B≤w7.heap.size:=Nat.le_trans hB ha7.upd.size
     have hv_7:=ha7.upd.blk_some hv hdv
     have eY:=ha7.upd.blk_some hx1 cJ
     have u6:=ha7.upd.blk_some hx2 eI
     repeat ((first|refine qA ?_|apply qB|refine qC ?_|apply qD|apply qE|apply qF|apply qG|apply qH);try simp (disch:=omega) only [go_sem,↓reduceIte,n0,reduceCtorEq,fN,fO,fP,fQ,nB,nA,n9,n8,hI2,hN2,hS2])
     refine ⟨⟨j2+1,_,by omega,rfl,rfl,ha7.eqs ?_⟩,?_⟩
     ·rw [lH,List.flatMap_append,List.flatMap_cons,List.flatMap_nil,List.append_nil,← l9,hY2];simp only [List.append_assoc,List.append_nil,List.nil_append]
     ·simp only [RowKit.intOf];omega
    ·have pK:j2=(y1.at 1).l.length:=by omega
     subst pK
     rw [List.take_length,← mY] at ha6
     repeat ((first|refine qA ?_|apply qB|refine qC ?_|apply qD|apply qE|apply qF|apply qG|apply qH);try simp (disch:=omega) only [go_sem,↓reduceIte,n0,reduceCtorEq,hI2,hN2])
     exact ⟨_,fN,fO,fP,fQ,nB,nA,n9,n8,ha6⟩
   ·rintro ρ w8 ⟨r8,jN,jO,jP,jQ,pR,pQ,pP,pO,ha8⟩
    have hB8:B≤w8.heap.size:=Nat.le_trans hB ha8.upd.size
    have hv_8:=ha8.upd.blk_some hv hdv
    have fA:=ha8.upd.blk_some hx1 cJ
    repeat ((first|refine qA ?_|apply qB|refine qC ?_|apply qD|apply qE|apply qF|apply qG|apply qH);try simp (disch:=omega) only [go_sem,↓reduceIte,n0,reduceCtorEq,jN,jO,jP,jQ,pR,pQ,pP,pO])
    refine ⟨⟨j1+1,_,by omega,rfl,rfl,ha8.eqs ?_⟩,?_⟩
    ·rw [lG,List.flatMap_append,List.flatMap_cons,List.flatMap_nil,List.append_nil,← l8,l7];simp only [List.append_assoc,List.append_nil,List.nil_append]
    ·simp only [RowKit.intOf];omega
  ·have pJ:j1=L_1.length:=by omega
   subst pJ
   rw [List.take_length,← hXE_1] at ha3
   repeat ((first|refine qA ?_|apply qB|refine qC ?_|apply qD|apply qE|apply qF|apply qG|apply qH);try simp (disch:=omega) only [go_sem,↓reduceIte,n0,reduceCtorEq,hI1,hN1])
   exact ⟨_,eH,eG,dJ,dI,ha3⟩
 ·rintro ρ w9 ⟨r9,gJ,gK,gL,gM,ha9⟩
  have hB9:B≤w9.heap.size:=Nat.le_trans hB ha9.upd.size
  have hv_9:=ha9.upd.blk_some hv hdv
  repeat ((first|refine qA ?_|apply qB|refine qC ?_|apply qD|apply qE|apply qF|apply qG|apply qH);try simp (disch:=omega) only [go_sem,↓reduceIte,n0,reduceCtorEq,hv_9,hni_1,gJ,gK,gL,gM])
  refine ha9.eqs ?_
  rw [hP];simp only [List.append_assoc,List.append_nil,List.nil_append]

set_option maxHeartbeats 4000000 in
theorem appQ_1 {d B:Nat} {okM:Blocks} {ver:Int} (hlo:2≤ver) (hhi:ver≤5) (t:Tree) (cells:List Value) (v:Value) (s:List UInt8) (w:World) {vb:Nat} (ho:OwnBy 5 B w v s) (hB:B≤w.heap.size) (hvb:blk w vb=some ((.int .i16 ver :: cells).toArray,63,(0,0)))
  (hR:RepS true (d+3) fsr_Q okM w t cells) (hfit:FitW ver (d+3) fsr_Q t) (hd:∀ b,b < w.heap.size→okM b→¬ ownB v b) (hdv:¬ ownB v vb) (hlen:s.length+(partS (d+3) fsr_Q ver false t).length≤2 ^ 41) :
  Fn Tryz.prog 19 #[.pointer (some ⟨vb,0,none⟩),v] w fun r w'=>AppR 5 B w v s (partS (d+3) fsr_Q ver false t) r w':=by
 obtain ⟨⟨g_0,g_1,g_2,g_3,-⟩,hfu⟩:=hfit
 replace g_0:hasS fQ_0 ver=true→FitWF (FitW ver (d+2)) ver fQ_0 (t.at 0):=g_0
 have hh_0:hasS fQ_0 ver=true:=hasS_t (by show (0:Int)≤ver;omega) (by show (7:Int) < 0∨ver≤(7:Int);omega)
 replace g_0:=g_0 hh_0
 replace g_1:hasS fQ_1 ver=true→FitWF (FitW ver (d+2)) ver fQ_1 (t.at 1):=g_1
 have hh_1:hasS fQ_1 ver=true:=hasS_t (by show (0:Int)≤ver;omega) (by show (7:Int) < 0∨ver≤(7:Int);omega)
 replace g_1:=g_1 hh_1
 replace g_2:hasS frQ_2 ver=true→FitWF (FitW ver (d+2)) ver frQ_2 (t.at 2):=g_2
 have hh_2:hasS frQ_2 ver=false:=hasS_f (by show ver < 8∨(0≤(-1:Int)∧(-1:Int) < ver);omega)
 clear g_2
 replace g_3:hasS fQ_3 ver=true→FitWF (FitW ver (d+2)) ver fQ_3 (t.at 3):=g_3
 have hh_3:hasS fQ_3 ver=false:=hasS_f (by show ver < 7∨(0≤(-1:Int)∧(-1:Int) < ver);omega)
 clear g_3
 obtain ⟨cs,q,hcs,hL,hT⟩:=hR.inv
 obtain ⟨c_0,e_0,rfl,h_0,c_1,e_1,rfl,h_1,c_2,e_2,rfl,h_2,c_3,e_3,rfl,h_3,rfl⟩:=hL
 replace h_0:RepF (RepS true (d+2)) (szS true (d+2)) fQ_0 okM w (t.at 0) c_0:=h_0
 replace h_1:RepF (RepS true (d+2)) (szS true (d+2)) fQ_1 okM w (t.at 1) c_1:=h_1
 replace h_2:RepF (RepS true (d+2)) (szS true (d+2)) frQ_2 okM w (t.at 2) c_2:=h_2
 replace h_3:RepF (RepS true (d+2)) (szS true (d+2)) fQ_3 okM w (t.at 3) c_3:=h_3
 obtain rfl:=(RepF_text rfl (by decide)).1 h_0
 obtain ⟨p_1,L_1,rfl,hLL_1,hs_1,hnn_1⟩:=RepF_listN g_1 rfl (by decide) h_1
 obtain ⟨ab_1,ac_1,rfl,_⟩:=SlR.shape hs_1
 have hni_1:=hnn_1 _ _ _ rfl
 have hgl_1:=g_1.listL rfl hLL_1
 have hll_1:=hgl_1.1
 obtain ⟨p_2,rfl⟩:=RepF_any (by decide) h_2
 obtain rfl:=(RepF_num (by decide)).1 h_3
 obtain ⟨qm,rfl⟩:=hT.shape
 have hv:blk w vb=some (#[.int .i16 ver,strV (t.at 0).s,.slice ab_1 L_1.length ac_1,p_2,.bool (decide ((t.at 3).n % 2=1)),.map qm],63,(0,0)):=by rw [hvb,hcs];rfl
 clear hvb hcs
 obtain ⟨X_0,hXX_0⟩:∃ X,X=fixedS (t.at 0).s.length 2++(t.at 0).s:=⟨_,rfl⟩
 obtain ⟨XL_1,hXL_1⟩:∃ X,X=countedS false (nullS fQ_1 ver (t.at 1)) L_1.length 4:=⟨_,rfl⟩
 obtain ⟨XE_1,hXE_1⟩:∃ X,X=L_1.flatMap (fun x=>partS (d+2) fs_X2 ver false x):=⟨_,rfl⟩
 have hP:partS (d+3) fsr_Q ver false t=X_0++((XL_1++XE_1)++[]):=partS_no (plainL_has (by decide) hh_0 ((fieldS_text_f g_0 rfl (by decide)).trans hXX_0.symm) (plainL_has (by decide) hh_1 ((fieldS_listN (g:=(fun x=>partS (d+2) fs_X2 ver false x)) g_1 rfl hLL_1 (fun x _=>valueS_part)).trans (by rw [hXL_1,hXE_1])) (plainL_not hh_2 (plainL_not hh_3 rfl))))
 rw [hP] at hlen
 simp only [List.length_append,List.length_nil] at hlen
 have hdK:∀ {r:Value} {w':World} {add:List UInt8},AppR 5 B w v s add r w'→∀ b,b < w'.heap.size→OkS okM w.heap.size b→¬ ownB r b:=fun h b _ hk ho=>(h.frame b ho).elim (hd b hk.2 hk.1) (fun h=>by have:=hk.2;omega)
 have ownK:∀ {r:Value} {w':World} {add:List UInt8} {b:Nat},AppR 5 B w v s add r w'→b < w.heap.size→¬ ownB v b→¬ ownB r b:=fun h hb hn ho=>(h.frame _ ho).elim hn (fun h=>by omega)
 have ha0:AppR 5 B w v s [] v w:=AppR.refl ho
 obtain ⟨w0,hw0⟩:∃ w0,w0=w:=⟨_,rfl⟩
 have hB0:=hB
 have hv_0:=hv
 refine fn_of_W Tryz.func19 rfl Tryz.results19 Tryz.ntmps19 rfl ?_
 repeat ((first|refine qA ?_|apply qB|refine qC ?_|apply qD|apply qE|apply qF|apply qG|apply qH);try simp (disch:=omega) only [go_sem,↓reduceIte,n0,reduceCtorEq,hv_0,hni_1])
 refine (AppendString_fn _ _ _ ha0.own hB0 (t.at 0).s (g_0.text (.inl rfl)) (by simp only [List.length_append,List.length_nil];omega)).mono ?_
 rintro r1 w1 hc1
 rw [← hXX_0] at hc1
 have ha1:=ha0.trans hc1
 have hB1:B≤w1.heap.size:=Nat.le_trans hB ha1.upd.size
 have hv_1:=ha1.upd.blk_some hv hdv
 repeat ((first|refine qA ?_|apply qB|refine qC ?_|apply qD|apply qE|apply qF|apply qG|apply qH);try simp (disch:=omega) only [go_sem,↓reduceIte,n0,reduceCtorEq,hv_1,hni_1])
 refine (AppendNullableArrayLen_fn _ _ _ ha1.own hB1 L_1.length hll_1 (nullS fQ_1 ver (t.at 1)) (by simp only [List.length_append,List.length_nil];omega)).mono ?_
 rintro r2 w2 hc2
 rw [← hXL_1] at hc2
 have ha2:=ha1.trans hc2
 have hB2:B≤w2.heap.size:=Nat.le_trans hB ha2.upd.size
 have hv_2:=ha2.upd.blk_some hv hdv
 repeat ((first|refine qA ?_|apply qB|refine qC ?_|apply qD|apply qE|apply qF|apply qG|apply qH);try simp (disch:=omega) only [go_sem,↓reduceIte,n0,reduceCtorEq,hv_2,hni_1])
 have z1:=ha2
 refine W.exitJ 0 (fun ρ w'=>∃ r,ρ 1=r∧ρ 0 = .pointer (some ⟨vb,0,none⟩)∧ρ 5 = .int .i16 ver∧ρ 6 = .bool false∧AppR 5 B w v s (([]++X_0++XL_1)++XE_1) r w')
  (W.loop (fun ρ w'=>∃ (j:Nat) (r:Value),j≤L_1.length∧ρ 91 = .int .i64 j∧ρ 90 = .int .i64 L_1.length∧ρ 8 = .slice ab_1 L_1.length ac_1∧ρ 1=r∧ρ 0 = .pointer (some ⟨vb,0,none⟩)∧ρ 5 = .int .i16 ver∧ρ 6 = .bool false∧AppR 5 B w v s (([]++X_0++XL_1)++(L_1.take j).flatMap (fun x=>partS (d+2) fs_X2 ver false x)) r w')
   (fun ρ _=>L_1.length - (RowKit.intOf (ρ 91)).toNat) ?_ ?_) ?_
 ·refine ⟨0,_,Nat.zero_le _,?_,?_,?_,?_,?_,?_,?_,ha2.eqs (by rw [List.take_zero,List.flatMap_nil,List.append_nil])⟩<;>simp (disch:=omega) only [go_sem,↓reduceIte,n0,reduceCtorEq]
  all_goals rfl
 ·rintro ρ w3 ⟨j1,r3,hj1,hI1,hN1,hS1,eH,eG,dJ,dI,ha3⟩
  have hB3:B≤w3.heap.size:=Nat.le_trans hB ha3.upd.size
  have hv_3:=ha3.upd.blk_some hv hdv
  by_cases eJ:j1 < L_1.length
  ·obtain ⟨_,b1,o1,x1,ce1,hb1,hok1,hx1,pE,zG,zE,hq1,iF⟩:=SlR.get (size:=3) (by decide) hs_1 eJ
   subst hb1
   have lG:L_1.take (j1+1)=L_1.take j1++[L_1[j1]]:=List.take_succ_eq_append_getElem eJ
   have fI:=take_flatMap_len L_1 (fun x=>partS (d+2) fs_X2 ver false x) (j1+1)
   rw [← hXE_1,lG,List.flatMap_append,List.flatMap_cons,List.flatMap_nil,List.append_nil] at fI
   have pI:=hgl_1.2 _ (List.getElem_mem eJ)
   generalize L_1[j1] = y1 at *
   have cJ:=hd b1 pE hok1
   obtain ⟨T1,l8⟩:∃ T,T=(L_1.take j1).flatMap (fun x=>partS (d+2) fs_X2 ver false x):=⟨_,rfl⟩
   rw [← l8] at ha3 fI
   have pT:=ha3.upd.blk_some hx1 cJ
   replace iF:RepS true (d+2) fs_X2 okM w y1 ce1:=Rep1_part.1 iF
   have pH:FitW ver (d+2) fs_X2 y1:=pI.2 rfl
   obtain ⟨⟨ge1_0,ge1_1,-⟩,fT⟩:=pH
   replace ge1_0:hasS fX2_0 ver=true→FitWF (FitW ver (d+1)) ver fX2_0 (y1.at 0):=ge1_0
   have lI:hasS fX2_0 ver=true:=hasS_t (by show (0:Int)≤ver;omega) (by show (-1:Int) < 0∨ver≤(-1:Int);omega)
   replace ge1_0:=ge1_0 lI
   replace ge1_1:hasS fX2_1 ver=true→FitWF (FitW ver (d+1)) ver fX2_1 (y1.at 1):=ge1_1
   have lO:hasS fX2_1 ver=true:=hasS_t (by show (0:Int)≤ver;omega) (by show (-1:Int) < 0∨ver≤(-1:Int);omega)
   replace ge1_1:=ge1_1 lO
   obtain ⟨cse1,qe1,pG,oZ,jS⟩:=iF.inv
   obtain ⟨ce1_0,ee1_0,rfl,iG,ce1_1,ee1_1,rfl,iH,rfl⟩:=oZ
   replace iG:RepF (RepS true (d+1)) (szS true (d+1)) fX2_0 okM w (y1.at 0) ce1_0:=iG
   replace iH:RepF (RepS true (d+1)) (szS true (d+1)) fX2_1 okM w (y1.at 1) ce1_1:=iH
   obtain rfl:=(RepF_text rfl (by decide)).1 iG
   obtain ⟨pe1_1,rfl,tE⟩:=RepF_listW ge1_1 rfl (by decide) iH
   obtain ⟨abe1_1,ace1_1,rfl,_⟩:=SlR.shape tE
   have rI:=ge1_1.list rfl
   have xU:=rI.1
   obtain ⟨qme1,rfl⟩:=jS.shape
   subst pG
   have cO:x1.1[o1+j1 * 3]? = some (strV (y1.at 0).s):=hq1 0 (by decide)
   have cP:x1.1[o1+(j1 * 3+1)]? = some (.slice abe1_1 (y1.at 1).l.length ace1_1):=hq1 1 (by decide)
   have cM:x1.1[o1+(j1 * 3+2)]? = some (.map qme1):=hq1 2 (by decide)
   obtain ⟨Xe1_0,lE⟩:∃ X,X=fixedS (y1.at 0).s.length 2++(y1.at 0).s:=⟨_,rfl⟩
   obtain ⟨XLe1_1,r0⟩:∃ X,X=fixedS (y1.at 1).l.length 4:=⟨_,rfl⟩
   obtain ⟨XEe1_1,mY⟩:∃ X,X=(y1.at 1).l.flatMap (fun x:Tree=>fixedS x.n 4):=⟨_,rfl⟩
   have l7:partS (d+2) fs_X2 ver false y1=Xe1_0++((XLe1_1++XEe1_1)++[]):=partS_no (plainL_has (by decide) lI ((fieldS_text_f ge1_0 rfl (by decide)).trans lE.symm) (plainL_has (by decide) lO ((fieldS_list_f (g:=(fun x:Tree=>fixedS x.n 4)) ge1_1 rfl (by decide) (fun x _=>valueS_num 3 (by decide))).trans (by rw [r0,mY])) rfl))
   rw [l7] at fI
   simp only [List.length_append,List.length_nil] at fI
   repeat ((first|refine qA ?_|apply qB|refine qC ?_|apply qD|apply qE|apply qF|apply qG|apply qH);try simp (disch:=omega) only [go_sem,↓reduceIte,n0,reduceCtorEq,hv_3,pT,hni_1,cO,cP,cM,eH,eG,dJ,dI,hI1,hN1,hS1])
   refine (AppendString_fn _ _ _ ha3.own hB3 (y1.at 0).s (ge1_0.text (.inl rfl)) (by simp only [List.length_append,List.length_nil];omega)).mono ?_
   rintro r4 w4 hc4
   rw [← lE] at hc4
   have ha4:=ha3.trans hc4
   have hB4:B≤w4.heap.size:=Nat.le_trans hB ha4.upd.size
   have hv_4:=ha4.upd.blk_some hv hdv
   have iD:=ha4.upd.blk_some hx1 cJ
   repeat ((first|refine qA ?_|apply qB|refine qC ?_|apply qD|apply qE|apply qF|apply qG|apply qH);try simp (disch:=omega) only [go_sem,↓reduceIte,n0,reduceCtorEq,hv_4,iD,hni_1,cO,cP,cM,eH,eG,dJ,dI,hI1,hN1,hS1])
   refine (AppendArrayLen_fn _ _ _ ha4.own hB4 (y1.at 1).l.length xU (by simp only [List.length_append,List.length_nil];omega)).mono ?_
   rintro r5 w5 hc5
   rw [← r0] at hc5
   have ha5:=ha4.trans hc5
   have hB5:B≤w5.heap.size:=Nat.le_trans hB ha5.upd.size
   have hv_5:=ha5.upd.blk_some hv hdv
   have kU:=ha5.upd.blk_some hx1 cJ
   repeat ((first|refine qA ?_|apply qB|refine qC ?_|apply qD|apply qE|apply qF|apply qG|apply qH);try simp (disch:=omega) only [go_sem,↓reduceIte,n0,reduceCtorEq,hv_5,kU,hni_1,cO,cP,cM,eH,eG,dJ,dI,hI1,hN1,hS1])
   have z2:=ha5
   refine W.exitJ 2 (fun ρ w'=>∃ r,ρ 1=r∧ρ 0 = .pointer (some ⟨vb,0,none⟩)∧ρ 5 = .int .i16 ver∧ρ 6 = .bool false∧ρ 91 = .int .i64 j1∧ρ 90 = .int .i64 L_1.length∧ρ 8 = .slice (some ⟨b1,o1,none⟩) L_1.length ac_1∧ρ 10 = .pointer (some ⟨b1,o1+j1 * 3,none⟩)∧AppR 5 B w v s (([]++X_0++XL_1++T1++Xe1_0++XLe1_1)++XEe1_1) r w')
    (W.loop (fun ρ w'=>∃ (j:Nat) (r:Value),j≤(y1.at 1).l.length∧ρ 123 = .int .i64 j∧ρ 122 = .int .i64 (y1.at 1).l.length∧ρ 12 = .slice abe1_1 (y1.at 1).l.length ace1_1∧ρ 1=r∧ρ 0 = .pointer (some ⟨vb,0,none⟩)∧ρ 5 = .int .i16 ver∧ρ 6 = .bool false∧ρ 91 = .int .i64 j1∧ρ 90 = .int .i64 L_1.length∧ρ 8 = .slice (some ⟨b1,o1,none⟩) L_1.length ac_1∧ρ 10 = .pointer (some ⟨b1,o1+j1 * 3,none⟩)∧AppR 5 B w v s (([]++X_0++XL_1++T1++Xe1_0++XLe1_1)++((y1.at 1).l.take j).flatMap (fun x:Tree=>fixedS x.n 4)) r w')
     (fun ρ _=>(y1.at 1).l.length - (RowKit.intOf (ρ 123)).toNat) ?_ ?_) ?_
   ·refine ⟨0,_,Nat.zero_le _,?_,?_,?_,?_,?_,?_,?_,?_,?_,?_,?_,ha5.eqs (by rw [List.take_zero,List.flatMap_nil,List.append_nil])⟩<;>simp (disch:=omega) only [go_sem,↓reduceIte,n0,reduceCtorEq,eH,eG,dJ,dI,hI1,hN1,hS1]
    all_goals rfl
   ·rintro ρ w6 ⟨j2,r6,hj2,hI2,hN2,hS2,fN,fO,fP,fQ,nB,nA,n9,n8,ha6⟩
    have hB6:B≤w6.heap.size:=Nat.le_trans hB ha6.upd.size
    have hv_6:=ha6.upd.blk_some hv hdv
    have kV:=ha6.upd.blk_some hx1 cJ
    by_cases hlt2:j2 < (y1.at 1).l.length
    ·obtain ⟨_,b2,o2,x2,ce2,hb2,hok2,hx2,pF,zH,zF,hq2,jM⟩:=SlR.get (size:=1) (by decide) tE hlt2
     subst hb2
     have lH:(y1.at 1).l.take (j2+1)=(y1.at 1).l.take j2++[(y1.at 1).l[j2]]:=List.take_succ_eq_append_getElem hlt2
     have eX:=take_flatMap_len (y1.at 1).l (fun x:Tree=>fixedS x.n 4) (j2+1)
     rw [← mY,lH,List.flatMap_append,List.flatMap_cons,List.flatMap_nil,List.append_nil] at eX
     have tW:=rI.2 _ (List.getElem_mem hlt2)
     generalize (y1.at 1).l[j2] = y2 at *
     have eI:=hd b2 pF hok2
     obtain ⟨T2,l9⟩:∃ T,T=((y1.at 1).l.take j2).flatMap (fun x:Tree=>fixedS x.n 4):=⟨_,rfl⟩
     rw [← l9] at ha6 eX
     have u5:=ha6.upd.blk_some hx2 eI
     obtain rfl:=(Rep1_num (by decide)).1 jM
     have fV:x2.1[o2+j2]? = some (.int .i32 (IntKind.i32.wrap y2.n)):=by have:=hq2 0 (by decide);rw [Nat.mul_one] at this;exact this
     obtain ⟨Y2,hY2⟩:∃ Y,Y=fixedS (y2).n 4:=⟨_,rfl⟩
     replace eX:(T2++Y2).length≤XEe1_1.length:=by rw [hY2];exact eX
     simp only [List.length_append] at eX
     repeat ((first|refine qA ?_|apply qB|refine qC ?_|apply qD|apply qE|apply qF|apply qG|apply qH);try simp (disch:=omega) only [go_sem,↓reduceIte,n0,reduceCtorEq,hv_6,kV,u5,hni_1,cO,cP,cM,fV,fN,fO,fP,fQ,nB,nA,n9,n8,hI2,hN2,hS2])
     refine (AppendInt32_fn _ _ _ ha6.own hB6 _ (by simp only [List.length_append,List.length_nil];omega)).mono ?_
     rintro r7 w7 hc7
     rw [wrap32,← hY2] at hc7
     have ha7:=ha6.trans hc7
     have hB7:B≤w7.heap.size:=Nat.le_trans hB ha7.upd.size
     have hv_7:=ha7.upd.blk_some hv hdv
     have eY:=ha7.upd.blk_some hx1 cJ
     have u6:=ha7.upd.blk_some hx2 eI
     repeat ((first|refine qA ?_|apply qB|refine qC ?_|apply qD|apply qE|apply qF|apply qG|apply qH);try simp (disch:=omega) only [go_sem,↓reduceIte,n0,reduceCtorEq,fN,fO,fP,fQ,nB,nA,n9,n8,hI2,hN2,hS2])
     refine ⟨⟨j2+1,_,by omega,rfl,rfl,ha7.eqs ?_⟩,?_⟩
     ·rw [lH,List.flatMap_append,List.flatMap_cons,List.flatMap_nil,List.append_nil,← l9,hY2];simp only [List.append_assoc,List.append_nil,List.nil_append]
     ·simp only [RowKit.intOf];omega
    ·have pK:j2=(y1.at 1).l.length:=by omega
     subst pK
     rw [List.take_length,← mY] at ha6
     repeat ((first|refine qA ?_|apply qB|refine qC ?_|apply qD|apply qE|apply qF|apply qG|apply qH);try simp (disch:=omega) only [go_sem,↓reduceIte,n0,reduceCtorEq,hI2,hN2])
     exact ⟨_,fN,fO,fP,fQ,nB,nA,n9,n8,ha6⟩
   ·rintro ρ w8 ⟨r8,jN,jO,jP,jQ,pR,pQ,pP,pO,ha8⟩
    have hB8:B≤w8.heap.size:=Nat.le_trans hB ha8.upd.size
    have hv_8:=ha8.upd.blk_some hv hdv
    have fA:=ha8.upd.blk_some hx1 cJ
    repeat ((first|refine qA ?_|apply qB|refine qC ?_|apply qD|apply qE|apply qF|apply qG|apply qH);try simp (disch:=omega) only [go_sem,↓reduceIte,n0,reduceCtorEq,jN,jO,jP,jQ,pR,pQ,pP,pO])
    refine ⟨⟨j1+1,_,by omega,rfl,rfl,ha8.eqs ?_⟩,?_⟩
    ·rw [lG,List.flatMap_append,List.flatMap_cons,List.flatMap_nil,List.append_nil,← l8,l7];simp only [List.append_assoc,List.append_nil,List.nil_append]
    ·simp only [RowKit.intOf];omega
  ·have pJ:j1=L_1.length:=by omega
   subst pJ
   rw [List.take_length,← hXE_1] at ha3
   repeat ((first|refine qA ?_|apply qB|refine qC ?_|apply qD|apply qE|apply qF|apply qG|apply qH);try simp (disch:=omega) only [go_sem,↓reduceIte,n0,reduceCtorEq,hI1,hN1])
   exact ⟨_,eH,eG,dJ,dI,ha3⟩
 ·rintro ρ w9 ⟨r9,gJ,gK,gL,gM,ha9⟩
  have hB9:B≤w9.heap.size:=Nat.le_trans hB ha9.upd.size
  have hv_9:=ha9.upd.blk_some hv hdv
  repeat ((first|refine qA ?_|apply qB|refine qC ?_|apply qD|apply qE|apply qF|apply qG|apply qH);try simp (disch:=omega) only [go_sem,↓reduceIte,n0,reduceCtorEq,hv_9,hni_1,gJ,gK,gL,gM])
  refine ha9.eqs ?_
  rw [hP];simp only [List.append_assoc,List.append_nil,List.nil_append]

set_option maxHeartbeats 4000000 in
theorem appQ_2 {d B:Nat} {okM:Blocks} {ver:Int} (hlo:6≤ver) (hhi:ver≤6) (t:Tree) (cells:List Value) (v:Value) (s:List UInt8) (w:World) {vb:Nat} (ho:OwnBy 5 B w v s) (hB:B≤w.heap.size) (hvb:blk w vb=some ((.int .i16 ver :: cells).toArray,63,(0,0)))
  (hR:RepS true (d+3) fsr_Q okM w t cells) (hfit:FitW ver (d+3) fsr_Q t) (hd:∀ b,b < w.heap.size→okM b→¬ ownB v b) (hdv:¬ ownB v vb) (hlen:s.length+(partS (d+3) fsr_Q ver true t).length≤2 ^ 41) :
  Fn Tryz.prog 19 #[.pointer (some ⟨vb,0,none⟩),v] w fun r w'=>AppR 5 B w v s (partS (d+3) fsr_Q ver true t) r w':=by
 obtain ⟨⟨g_0,g_1,g_2,g_3,-⟩,hfu⟩:=hfit
 replace g_0:hasS fQ_0 ver=true→FitWF (FitW ver (d+2)) ver fQ_0 (t.at 0):=g_0
 have hh_0:hasS fQ_0 ver=true:=hasS_t (by show (0:Int)≤ver;omega) (by show (7:Int) < 0∨ver≤(7:Int);omega)
 replace g_0:=g_0 hh_0
 replace g_1:hasS fQ_1 ver=true→FitWF (FitW ver (d+2)) ver fQ_1 (t.at 1):=g_1
 have hh_1:hasS fQ_1 ver=true:=hasS_t (by show (0:Int)≤ver;omega) (by show (7:Int) < 0∨ver≤(7:Int);omega)
 replace g_1:=g_1 hh_1
 replace g_2:hasS frQ_2 ver=true→FitWF (FitW ver (d+2)) ver frQ_2 (t.at 2):=g_2
 have hh_2:hasS frQ_2 ver=false:=hasS_f (by show ver < 8∨(0≤(-1:Int)∧(-1:Int) < ver);omega)
 clear g_2
 replace g_3:hasS fQ_3 ver=true→FitWF (FitW ver (d+2)) ver fQ_3 (t.at 3):=g_3
 have hh_3:hasS fQ_3 ver=false:=hasS_f (by show ver < 7∨(0≤(-1:Int)∧(-1:Int) < ver);omega)
 clear g_3
 obtain ⟨cs,q,hcs,hL,hT⟩:=hR.inv
 obtain ⟨c_0,e_0,rfl,h_0,c_1,e_1,rfl,h_1,c_2,e_2,rfl,h_2,c_3,e_3,rfl,h_3,rfl⟩:=hL
 replace h_0:RepF (RepS true (d+2)) (szS true (d+2)) fQ_0 okM w (t.at 0) c_0:=h_0
 replace h_1:RepF (RepS true (d+2)) (szS true (d+2)) fQ_1 okM w (t.at 1) c_1:=h_1
 replace h_2:RepF (RepS true (d+2)) (szS true (d+2)) frQ_2 okM w (t.at 2) c_2:=h_2
 replace h_3:RepF (RepS true (d+2)) (szS true (d+2)) fQ_3 okM w (t.at 3) c_3:=h_3
 obtain rfl:=(RepF_text rfl (by decide)).1 h_0
 obtain ⟨p_1,L_1,rfl,hLL_1,hs_1,hnn_1⟩:=RepF_listN g_1 rfl (by decide) h_1
 obtain ⟨ab_1,ac_1,rfl,_⟩:=SlR.shape hs_1
 have hni_1:=hnn_1 _ _ _ rfl
 have hgl_1:=g_1.listL rfl hLL_1
 have hll_1:=hgl_1.1
 obtain ⟨p_2,rfl⟩:=RepF_any (by decide) h_2
 obtain rfl:=(RepF_num (by decide)).1 h_3
 obtain ⟨qm,rfl⟩:=hT.shape
 have hv:blk w vb=some (#[.int .i16 ver,strV (t.at 0).s,.slice ab_1 L_1.length ac_1,p_2,.bool (decide ((t.at 3).n % 2=1)),.map qm],63,(0,0)):=by rw [hvb,hcs];rfl
 clear hvb hcs
 obtain ⟨X_0,hXX_0⟩:∃ X,X=uvarS ((t.at 0).s.length+1)++(t.at 0).s:=⟨_,rfl⟩
 obtain ⟨XL_1,hXL_1⟩:∃ X,X=countedS true (nullS fQ_1 ver (t.at 1)) L_1.length 4:=⟨_,rfl⟩
 obtain ⟨XE_1,hXE_1⟩:∃ X,X=L_1.flatMap (fun x=>partS (d+2) fs_X2 ver true x):=⟨_,rfl⟩
 obtain ⟨XU,hXU⟩:∃ X,X=uvarS t.u.length:=⟨_,rfl⟩
 obtain ⟨XT,hXT⟩:∃ X,X=t.u.flatMap oneTag:=⟨_,rfl⟩
 have hP:partS (d+3) fsr_Q ver true t=(X_0++((XL_1++XE_1)++[]))++(XU++XT):=by rw [hXU,hXT];exact partS_yes rfl hfu (plainL_has (by decide) hh_0 ((fieldS_text_t g_0 rfl (by decide)).trans hXX_0.symm) (plainL_has (by decide) hh_1 ((fieldS_listN (g:=(fun x=>partS (d+2) fs_X2 ver true x)) g_1 rfl hLL_1 (fun x _=>valueS_part)).trans (by rw [hXL_1,hXE_1])) (plainL_not hh_2 (plainL_not hh_3 rfl))))
 rw [hP] at hlen
 simp only [List.length_append,List.length_nil] at hlen
 have hdK:∀ {r:Value} {w':World} {add:List UInt8},AppR 5 B w v s add r w'→∀ b,b < w'.heap.size→OkS okM w.heap.size b→¬ ownB r b:=fun h b _ hk ho=>(h.frame b ho).elim (hd b hk.2 hk.1) (fun h=>by have:=hk.2;omega)
 have ownK:∀ {r:Value} {w':World} {add:List UInt8} {b:Nat},AppR 5 B w v s add r w'→b < w.heap.size→¬ ownB v b→¬ ownB r b:=fun h hb hn ho=>(h.frame _ ho).elim hn (fun h=>by omega)
 have ha0:AppR 5 B w v s [] v w:=AppR.refl ho
 obtain ⟨w0,hw0⟩:∃ w0,w0=w:=⟨_,rfl⟩
 have hB0:=hB
 have hv_0:=hv
 refine fn_of_W Tryz.func19 rfl Tryz.results19 Tryz.ntmps19 rfl ?_
 repeat ((first|refine qA ?_|apply qB|refine qC ?_|apply qD|apply qE|apply qF|apply qG|apply qH);try simp (disch:=omega) only [go_sem,↓reduceIte,n0,reduceCtorEq,hv_0,hni_1])
 refine (AppendCompactString_fn _ _ _ ha0.own hB0 (t.at 0).s (g_0.text (.inl rfl)) (by simp only [List.length_append,List.length_nil];omega)).mono ?_
 rintro r1 w1 hc1
 rw [← hXX_0] at hc1
 have ha1:=ha0.trans hc1
 have hB1:B≤w1.heap.size:=Nat.le_trans hB ha1.upd.size
 have hv_1:=ha1.upd.blk_some hv hdv
 repeat ((first|refine qA ?_|apply qB|refine qC ?_|apply qD|apply qE|apply qF|apply qG|apply qH);try simp (disch:=omega) only [go_sem,↓reduceIte,n0,reduceCtorEq,hv_1,hni_1])
 refine (AppendCompactNullableArrayLen_fn _ _ _ ha1.own hB1 L_1.length hll_1 (nullS fQ_1 ver (t.at 1)) (by simp only [List.length_append,List.length_nil];omega)).mono ?_
 rintro r2 w2 hc2
 rw [← hXL_1] at hc2
 have ha2:=ha1.trans hc2
 have hB2:B≤w2.heap.size:=Nat.le_trans hB ha2.upd.size
 have hv_2:=ha2.upd.blk_some hv hdv
 repeat ((first|refine qA ?_|apply qB|refine qC ?_|apply qD|apply qE|apply qF|apply qG|apply qH);try simp (disch:=omega) only [go_sem,↓reduceIte,n0,reduceCtorEq,hv_2,hni_1])
 have z1:=ha2
 refine W.exitJ 0 (fun ρ w'=>∃ r,ρ 1=r∧ρ 0 = .pointer (some ⟨vb,0,none⟩)∧ρ 5 = .int .i16 ver∧ρ 6 = .bool true∧AppR 5 B w v s (([]++X_0++XL_1)++XE_1) r w')
  (W.loop (fun ρ w'=>∃ (j:Nat) (r:Value),j≤L_1.length∧ρ 91 = .int .i64 j∧ρ 90 = .int .i64 L_1.length∧ρ 8 = .slice ab_1 L_1.length ac_1∧ρ 1=r∧ρ 0 = .pointer (some ⟨vb,0,none⟩)∧ρ 5 = .int .i16 ver∧ρ 6 = .bool true∧AppR 5 B w v s (([]++X_0++XL_1)++(L_1.take j).flatMap (fun x=>partS (d+2) fs_X2 ver true x)) r w')
   (fun ρ _=>L_1.length - (RowKit.intOf (ρ 91)).toNat) ?_ ?_) ?_
 ·refine ⟨0,_,Nat.zero_le _,?_,?_,?_,?_,?_,?_,?_,ha2.eqs (by rw [List.take_zero,List.flatMap_nil,List.append_nil])⟩<;>simp (disch:=omega) only [go_sem,↓reduceIte,n0,reduceCtorEq]
  all_goals rfl
 ·rintro ρ w3 ⟨j1,r3,hj1,hI1,hN1,hS1,eH,eG,dJ,dI,ha3⟩
  have hB3:B≤w3.heap.size:=Nat.le_trans hB ha3.upd.size
  have hv_3:=ha3.upd.blk_some hv hdv
  by_cases eJ:j1 < L_1.length
  ·obtain ⟨_,b1,o1,x1,ce1,hb1,hok1,hx1,pE,zG,zE,hq1,iF⟩:=SlR.get (size:=3) (by decide) hs_1 eJ
   subst hb1
   have lG:L_1.take (j1+1)=L_1.take j1++[L_1[j1]]:=List.take_succ_eq_append_getElem eJ
   have fI:=take_flatMap_len L_1 (fun x=>partS (d+2) fs_X2 ver true x) (j1+1)
   rw [← hXE_1,lG,List.flatMap_append,List.flatMap_cons,List.flatMap_nil,List.append_nil] at fI
   have pI:=hgl_1.2 _ (List.getElem_mem eJ)
   generalize L_1[j1] = y1 at *
   have cJ:=hd b1 pE hok1
   obtain ⟨T1,l8⟩:∃ T,T=(L_1.take j1).flatMap (fun x=>partS (d+2) fs_X2 ver true x):=⟨_,rfl⟩
   rw [← l8] at ha3 fI
   have pT:=ha3.upd.blk_some hx1 cJ
   replace iF:RepS true (d+2) fs_X2 okM w y1 ce1:=Rep1_part.1 iF
   have pH:FitW ver (d+2) fs_X2 y1:=pI.2 rfl
   obtain ⟨⟨ge1_0,ge1_1,-⟩,fT⟩:=pH
   replace ge1_0:hasS fX2_0 ver=true→FitWF (FitW ver (d+1)) ver fX2_0 (y1.at 0):=ge1_0
   have lI:hasS fX2_0 ver=true:=hasS_t (by show (0:Int)≤ver;omega) (by show (-1:Int) < 0∨ver≤(-1:Int);omega)
   replace ge1_0:=ge1_0 lI
   replace ge1_1:hasS fX2_1 ver=true→FitWF (FitW ver (d+1)) ver fX2_1 (y1.at 1):=ge1_1
   have lO:hasS fX2_1 ver=true:=hasS_t (by show (0:Int)≤ver;omega) (by show (-1:Int) < 0∨ver≤(-1:Int);omega)
   replace ge1_1:=ge1_1 lO
   obtain ⟨cse1,qe1,pG,oZ,jS⟩:=iF.inv
   obtain ⟨ce1_0,ee1_0,rfl,iG,ce1_1,ee1_1,rfl,iH,rfl⟩:=oZ
   replace iG:RepF (RepS true (d+1)) (szS true (d+1)) fX2_0 okM w (y1.at 0) ce1_0:=iG
   replace iH:RepF (RepS true (d+1)) (szS true (d+1)) fX2_1 okM w (y1.at 1) ce1_1:=iH
   obtain rfl:=(RepF_text rfl (by decide)).1 iG
   obtain ⟨pe1_1,rfl,tE⟩:=RepF_listW ge1_1 rfl (by decide) iH
   obtain ⟨abe1_1,ace1_1,rfl,_⟩:=SlR.shape tE
   have rI:=ge1_1.list rfl
   have xU:=rI.1
   obtain ⟨qme1,rfl⟩:=jS.shape
   subst pG
   have cO:x1.1[o1+j1 * 3]? = some (strV (y1.at 0).s):=hq1 0 (by decide)
   have cP:x1.1[o1+(j1 * 3+1)]? = some (.slice abe1_1 (y1.at 1).l.length ace1_1):=hq1 1 (by decide)
   have cM:x1.1[o1+(j1 * 3+2)]? = some (.map qme1):=hq1 2 (by decide)
   obtain ⟨Xe1_0,lE⟩:∃ X,X=uvarS ((y1.at 0).s.length+1)++(y1.at 0).s:=⟨_,rfl⟩
   obtain ⟨XLe1_1,r0⟩:∃ X,X=uvarS ((y1.at 1).l.length+1):=⟨_,rfl⟩
   obtain ⟨XEe1_1,mY⟩:∃ X,X=(y1.at 1).l.flatMap (fun x:Tree=>fixedS x.n 4):=⟨_,rfl⟩
   obtain ⟨XUe1,o9⟩:∃ X,X=uvarS y1.u.length:=⟨_,rfl⟩
   obtain ⟨XTe1,o8⟩:∃ X,X=y1.u.flatMap oneTag:=⟨_,rfl⟩
   have l7:partS (d+2) fs_X2 ver true y1=(Xe1_0++((XLe1_1++XEe1_1)++[]))++(XUe1++XTe1):=by rw [o9,o8];exact partS_yes rfl fT (plainL_has (by decide) lI ((fieldS_text_t ge1_0 rfl (by decide)).trans lE.symm) (plainL_has (by decide) lO ((fieldS_list_t (g:=(fun x:Tree=>fixedS x.n 4)) ge1_1 rfl (by decide) (fun x _=>valueS_num 3 (by decide))).trans (by rw [r0,mY])) rfl))
   rw [l7] at fI
   simp only [List.length_append,List.length_nil] at fI
   repeat ((first|refine qA ?_|apply qB|refine qC ?_|apply qD|apply qE|apply qF|apply qG|apply qH);try simp (disch:=omega) only [go_sem,↓reduceIte,n0,reduceCtorEq,hv_3,pT,hni_1,cO,cP,cM,eH,eG,dJ,dI,hI1,hN1,hS1])
   refine (AppendCompactString_fn _ _ _ ha3.own hB3 (y1.at 0).s (ge1_0.text (.inl rfl)) (by simp only [List.length_append,List.length_nil];omega)).mono ?_
   rintro r4 w4 hc4
   rw [← lE] at hc4
   have ha4:=ha3.trans hc4
   have hB4:B≤w4.heap.size:=Nat.le_trans hB ha4.upd.size
   have hv_4:=ha4.upd.blk_some hv hdv
   have iD:=ha4.upd.blk_some hx1 cJ
   repeat ((first|refine qA ?_|apply qB|refine qC ?_|apply qD|apply qE|apply qF|apply qG|apply qH);try simp (disch:=omega) only [go_sem,↓reduceIte,n0,reduceCtorEq,hv_4,iD,hni_1,cO,cP,cM,eH,eG,dJ,dI,hI1,hN1,hS1])
   refine (AppendCompactArrayLen_fn _ _ _ ha4.own hB4 (y1.at 1).l.length xU (by simp only [List.length_append,List.length_nil];omega)).mono ?_
   rintro r5 w5 hc5
   rw [← r0] at hc5
   have ha5:=ha4.trans hc5
   have hB5:B≤w5.heap.size:=Nat.le_trans hB ha5.upd.size
   have hv_5:=ha5.upd.blk_some hv hdv
   have kU:=ha5.upd.blk_some hx1 cJ
   repeat ((first|refine qA ?_|apply qB|refine qC ?_|apply qD|apply qE|apply qF|apply qG|apply qH);try simp (disch:=omega) only [go_sem,↓reduceIte,n0,reduceCtorEq,hv_5,kU,hni_1,cO,cP,cM,eH,eG,dJ,dI,hI1,hN1,hS1])
   have z2:=ha5
   refine W.exitJ 2 (fun ρ w'=>∃ r,ρ 1=r∧ρ 0 = .pointer (some ⟨vb,0,none⟩)∧ρ 5 = .int .i16 ver∧ρ 6 = .bool true∧ρ 91 = .int .i64 j1∧ρ 90 = .int .i64 L_1.length∧ρ 8 = .slice (some ⟨b1,o1,none⟩) L_1.length ac_1∧ρ 10 = .pointer (some ⟨b1,o1+j1 * 3,none⟩)∧AppR 5 B w v s (([]++X_0++XL_1++T1++Xe1_0++XLe1_1)++XEe1_1) r w')
    (W.loop (fun ρ w'=>∃ (j:Nat) (r:Value),j≤(y1.at 1).l.length∧ρ 123 = .int .i64 j∧ρ 122 = .int .i64 (y1.at 1).l.length∧ρ 12 = .slice abe1_1 (y1.at 1).l.length ace1_1∧ρ 1=r∧ρ 0 = .pointer (some ⟨vb,0,none⟩)∧ρ 5 = .int .i16 ver∧ρ 6 = .bool true∧ρ 91 = .int .i64 j1∧ρ 90 = .int .i64 L_1.length∧ρ 8 = .slice (some ⟨b1,o1,none⟩) L_1.length ac_1∧ρ 10 = .pointer (some ⟨b1,o1+j1 * 3,none⟩)∧AppR 5 B w v s (([]++X_0++XL_1++T1++Xe1_0++XLe1_1)++((y1.at 1).l.take j).flatMap (fun x:Tree=>fixedS x.n 4)) r w')
     (fun ρ _=>(y1.at 1).l.length - (RowKit.intOf (ρ 123)).toNat) ?_ ?_) ?_
   ·refine ⟨0,_,Nat.zero_le _,?_,?_,?_,?_,?_,?_,?_,?_,?_,?_,?_,ha5.eqs (by rw [List.take_zero,List.flatMap_nil,List.append_nil])⟩<;>simp (disch:=omega) only [go_sem,↓reduceIte,n0,reduceCtorEq,eH,eG,dJ,dI,hI1,hN1,hS1]
    all_goals rfl
   ·rintro ρ w6 ⟨j2,r6,hj2,hI2,hN2,hS2,fN,fO,fP,fQ,nB,nA,n9,n8,ha6⟩
    have hB6:B≤w6.heap.size:=Nat.le_trans hB ha6.upd.size
    have hv_6:=ha6.upd.blk_some hv hdv
    have kV:=ha6.upd.blk_some hx1 cJ
    by_cases hlt2:j2 < (y1.at 1).l.length
    ·obtain ⟨_,b2,o2,x2,ce2,hb2,hok2,hx2,pF,zH,zF,hq2,jM⟩:=SlR.get (size:=1) (by decide) tE hlt2
     subst hb2
     have lH:(y1.at 1).l.take (j2+1)=(y1.at 1).l.take j2++[(y1.at 1).l[j2]]:=List.take_succ_eq_append_getElem hlt2
     have eX:=take_flatMap_len (y1.at 1).l (fun x:Tree=>fixedS x.n 4) (j2+1)
     rw [← mY,lH,List.flatMap_append,List.flatMap_cons,List.flatMap_nil,List.append_nil] at eX
     have tW:=rI.2 _ (List.getElem_mem hlt2)
     generalize (y1.at 1).l[j2] = y2 at *
     have eI:=hd b2 pF hok2
     obtain ⟨T2,l9⟩:∃ T,T=((y1.at 1).l.take j2).flatMap (fun x:Tree=>fixedS x.n 4):=⟨_,rfl⟩
     rw [← l9] at ha6 eX
     have u5:=ha6.upd.blk_some hx2 eI
     obtain rfl:=(Rep1_num (by decide)).1 jM
     have fV:x2.1[o2+j2]? = some (.int .i32 (IntKind.i32.wrap y2.n)):=by have:=hq2 0 (by decide);rw [Nat.mul_one] at this;exact this
     obtain ⟨Y2,hY2⟩:∃ Y,Y=fixedS (y2).n 4:=⟨_,rfl⟩
     replace eX:(T2++Y2).length≤XEe1_1.length:=by rw [hY2];exact eX
     simp only [List.length_append] at eX
     repeat ((first|refine qA ?_|apply qB|refine qC ?_|apply qD|apply qE|apply qF|apply qG|apply qH);try simp (disch:=omega) only [go_sem,↓reduceIte,n0,reduceCtorEq,hv_6,kV,u5,hni_1,cO,cP,cM,fV,fN,fO,fP,fQ,nB,nA,n9,n8,hI2,hN2,hS2])
     refine (AppendInt32_fn _ _ _ ha6.own hB6 _ (by simp only [List.length_append,List.length_nil];omega)).mono ?_
     rintro r7 w7 hc7
     rw [wrap32,← hY2] at hc7
     have ha7:=ha6.trans hc7
     have hB7:B≤w7.heap.size:=Nat.le_trans hB ha7.upd.size
     have hv_7:=ha7.upd.blk_some hv hdv
     have eY:=ha7.upd.blk_some hx1 cJ
     have u6:=ha7.upd.blk_some hx2 eI
     repeat ((first|refine qA ?_|apply qB|refine qC ?_|apply qD|apply qE|apply qF|apply qG|apply qH);try simp (disch:=omega) only [go_sem,↓reduceIte,n0,reduceCtorEq,fN,fO,fP,fQ,nB,nA,n9,n8,hI2,hN2,hS2])
     refine ⟨⟨j2+1,_,by omega,rfl,rfl,ha7.eqs ?_⟩,?_⟩
     ·rw [lH,List.flatMap_append,List.flatMap_cons,List.flatMap_nil,List.append_nil,← l9,hY2];simp only [List.append_assoc,List.append_nil,List.nil_append]
     ·simp only [RowKit.intOf];omega
    ·have pK:j2=(y1.at 1).l.length:=by omega
     subst pK
     rw [List.take_length,← mY] at ha6
     repeat ((first|refine qA ?_|apply qB|refine qC ?_|apply qD|apply qE|apply qF|apply qG|apply qH);try simp (disch:=omega) only [go_sem,↓reduceIte,n0,reduceCtorEq,hI2,hN2])
     exact ⟨_,fN,fO,fP,fQ,nB,nA,n9,n8,ha6⟩
   ·rintro ρ w8 ⟨r8,jN,jO,jP,jQ,pR,pQ,pP,pO,ha8⟩
    have hB8:B≤w8.heap.size:=Nat.le_trans hB ha8.upd.size
    have hv_8:=ha8.upd.blk_some hv hdv
    have fA:=ha8.upd.blk_some hx1 cJ
    repeat ((first|refine qA ?_|apply qB|refine qC ?_|apply qD|apply qE|apply qF|apply qG|apply qH);try simp (disch:=omega) only [go_sem,↓reduceIte,n0,reduceCtorEq,hv_8,fA,hni_1,cO,cP,cM,jN,jO,jP,jQ,pR,pQ,pP,pO])
    have F0:TagsM (OkS okM w.heap.size) w8 (.map qme1) y1.u:=(jS.weaken fun b h1 h2=>⟨h2,h1⟩).keep (ha8.upd.keeps fun b hb hk=>hd b hb hk.1)
    refine (TagsLen_fn (ok:=OkS okM w.heap.size) w8 fA (to:=o1+(j1 * 3+2)) cM F0).mono ?_
    rintro _ w8' ⟨rfl,rfl⟩
    have K4:y1.u.length≤32767:=fT.1
    have ew8:IntKind.u32.wrap (y1.u.length:Int)=y1.u.length:=u32_wrap (by omega)
    have ez8:IntKind.u32.wrap (0+(y1.u.length:Int))=y1.u.length:=by rw [Int.zero_add,u32_wrap (by omega)]
    simp (disch:=omega) only [go_sem,↓reduceIte,n0,reduceCtorEq,hv_8,fA,hni_1,cO,cP,cM,jN,jO,jP,jQ,pR,pQ,pP,pO,ew8,ez8]
    refine (AppendUvarint_fn _ _ _ ha8.own hB8 y1.u.length (by omega) (by simp only [List.length_append,List.length_nil];omega)).mono ?_
    rintro r9 w9 hc9
    rw [← o9] at hc9
    have ha9:=ha8.trans hc9
    have hB9:B≤w9.heap.size:=Nat.le_trans hB ha9.upd.size
    have hv_9:=ha9.upd.blk_some hv hdv
    have gE:=ha9.upd.blk_some hx1 cJ
    repeat ((first|refine qA ?_|apply qB|refine qC ?_|apply qD|apply qE|apply qF|apply qG|apply qH);try simp (disch:=omega) only [go_sem,↓reduceIte,n0,reduceCtorEq,hv_9,gE,hni_1,cO,cP,cM,jN,jO,jP,jQ,pR,pQ,pP,pO])
    have AA:TagsM (OkS okM w.heap.size) w9 (.map qme1) y1.u:=(jS.weaken fun b h1 h2=>⟨h2,h1⟩).keep (ha9.upd.keeps fun b hb hk=>hd b hb hk.1)
    refine (AppendEach_fn (ok:=OkS okM w.heap.size) _ _ _ ha9.own hB9 gE (to:=o1+(j1 * 3+2)) cM AA (rising_keys fT) fT.1 (tags_small fT AA) (hdK ha9) (ownK ha9 (blk_lt hx1) cJ) (by simp only [List.length_append,List.length_nil];omega)).mono ?_
    rintro r10 w10 uZ
    rw [← o8] at uZ
    have fC:=ha9.trans uZ
    have yH:B≤w10.heap.size:=Nat.le_trans hB fC.upd.size
    have hv_10:=fC.upd.blk_some hv hdv
    have jL:=fC.upd.blk_some hx1 cJ
    repeat ((first|refine qA ?_|apply qB|refine qC ?_|apply qD|apply qE|apply qF|apply qG|apply qH);try simp (disch:=omega) only [go_sem,↓reduceIte,n0,reduceCtorEq,jN,jO,jP,jQ,pR,pQ,pP,pO])
    refine ⟨⟨j1+1,_,by omega,rfl,rfl,fC.eqs ?_⟩,?_⟩
    ·rw [lG,List.flatMap_append,List.flatMap_cons,List.flatMap_nil,List.append_nil,← l8,l7];simp only [List.append_assoc,List.append_nil,List.nil_append]
    ·simp only [RowKit.intOf];omega
  ·have pJ:j1=L_1.length:=by omega
   subst pJ
   rw [List.take_length,← hXE_1] at ha3
   repeat ((first|refine qA ?_|apply qB|refine qC ?_|apply qD|apply qE|apply qF|apply qG|apply qH);try simp (disch:=omega) only [go_sem,↓reduceIte,n0,reduceCtorEq,hI1,hN1])
   exact ⟨_,eH,eG,dJ,dI,ha3⟩
 ·rintro ρ w11 ⟨r11,gJ,gK,gL,gM,eW⟩
  have uA:B≤w11.heap.size:=Nat.le_trans hB eW.upd.size
  have hv_11:=eW.upd.blk_some hv hdv
  repeat ((first|refine qA ?_|apply qB|refine qC ?_|apply qD|apply qE|apply qF|apply qG|apply qH);try simp (disch:=omega) only [go_sem,↓reduceIte,n0,reduceCtorEq,hv_11,hni_1,gJ,gK,gL,gM])
  have DD:TagsM (OkS okM w.heap.size) w11 (.map qm) t.u:=(hT.weaken fun b h1 h2=>⟨h2,h1⟩).keep (eW.upd.keeps fun b hb hk=>hd b hb hk.1)
  refine (TagsLen_fn (ok:=OkS okM w.heap.size) w11 hv_11 (to:=5) (show (#[.int .i16 ver,strV (t.at 0).s,.slice ab_1 L_1.length ac_1,p_2,.bool (decide ((t.at 3).n % 2=1)),.map qm]:Array Value)[5]? = some (.map qm) from rfl) DD).mono ?_
  rintro _ w11' ⟨rfl,rfl⟩
  have KG:t.u.length≤32767:=hfu.1
  have ew11:IntKind.u32.wrap (t.u.length:Int)=t.u.length:=u32_wrap (by omega)
  have ez11:IntKind.u32.wrap (0+(t.u.length:Int))=t.u.length:=by rw [Int.zero_add,u32_wrap (by omega)]
  simp (disch:=omega) only [go_sem,↓reduceIte,n0,reduceCtorEq,hv_11,hni_1,gJ,gK,gL,gM,ew11,ez11]
  refine (AppendUvarint_fn _ _ _ eW.own uA t.u.length (by omega) (by simp only [List.length_append,List.length_nil];omega)).mono ?_
  rintro r12 w12 rB
  rw [← hXU] at rB
  have fE:=eW.trans rB
  have wO:B≤w12.heap.size:=Nat.le_trans hB fE.upd.size
  have hv_12:=fE.upd.blk_some hv hdv
  repeat ((first|refine qA ?_|apply qB|refine qC ?_|apply qD|apply qE|apply qF|apply qG|apply qH);try simp (disch:=omega) only [go_sem,↓reduceIte,n0,reduceCtorEq,hv_12,hni_1,gJ,gK,gL,gM])
  have yP:TagsM (OkS okM w.heap.size) w12 (.map qm) t.u:=(hT.weaken fun b h1 h2=>⟨h2,h1⟩).keep (fE.upd.keeps fun b hb hk=>hd b hb hk.1)
  refine (AppendEach_fn (ok:=OkS okM w.heap.size) _ _ _ fE.own wO hv_12 (to:=5) (show (#[.int .i16 ver,strV (t.at 0).s,.slice ab_1 L_1.length ac_1,p_2,.bool (decide ((t.at 3).n % 2=1)),.map qm]:Array Value)[5]? = some (.map qm) from rfl) yP (rising_keys hfu) hfu.1 (tags_small hfu yP) (hdK fE) (ownK fE (blk_lt hv) hdv) (by simp only [List.length_append,List.length_nil];omega)).mono ?_
  rintro r13 w13 vA
  rw [← hXT] at vA
  have eZ:=fE.trans vA
  have uC:B≤w13.heap.size:=Nat.le_trans hB eZ.upd.size
  have hv_13:=eZ.upd.blk_some hv hdv
  repeat ((first|refine qA ?_|apply qB|refine qC ?_|apply qD|apply qE|apply qF|apply qG|apply qH);try simp (disch:=omega) only [go_sem,↓reduceIte,n0,reduceCtorEq,hv_13,hni_1,gJ,gK,gL,gM])
  refine eZ.eqs ?_
  rw [hP];simp only [List.append_assoc,List.append_nil,List.nil_append]

set_option maxHeartbeats 4000000 in
theorem appQ_3 {d B:Nat} {okM:Blocks} {ver:Int} (hlo:7≤ver) (hhi:ver≤7) (t:Tree) (cells:List Value) (v:Value) (s:List UInt8) (w:World) {vb:Nat} (ho:OwnBy 5 B w v s) (hB:B≤w.heap.size) (hvb:blk w vb=some ((.int .i16 ver :: cells).toArray,63,(0,0)))
  (hR:RepS true (d+3) fsr_Q okM w t cells) (hfit:FitW ver (d+3) fsr_Q t) (hd:∀ b,b < w.heap.size→okM b→¬ ownB v b) (hdv:¬ ownB v vb) (hlen:s.length+(partS (d+3) fsr_Q ver true t).length≤2 ^ 41) :
  Fn Tryz.prog 19 #[.pointer (some ⟨vb,0,none⟩),v] w fun r w'=>AppR 5 B w v s (partS (d+3) fsr_Q ver true t) r w':=by
 obtain ⟨⟨g_0,g_1,g_2,g_3,-⟩,hfu⟩:=hfit
 replace g_0:hasS fQ_0 ver=true→FitWF (FitW ver (d+2)) ver fQ_0 (t.at 0):=g_0
 have hh_0:hasS fQ_0 ver=true:=hasS_t (by show (0:Int)≤ver;omega) (by show (7:Int) < 0∨ver≤(7:Int);omega)
 replace g_0:=g_0 hh_0
 replace g_1:hasS fQ_1 ver=true→FitWF (FitW ver (d+2)) ver fQ_1 (t.at 1):=g_1
 have hh_1:hasS fQ_1 ver=true:=hasS_t (by show (0:Int)≤ver;omega) (by show (7:Int) < 0∨ver≤(7:Int);omega)
 replace g_1:=g_1 hh_1
 replace g_2:hasS frQ_2 ver=true→FitWF (FitW ver (d+2)) ver frQ_2 (t.at 2):=g_2
 have hh_2:hasS frQ_2 ver=false:=hasS_f (by show ver < 8∨(0≤(-1:Int)∧(-1:Int) < ver);omega)
 clear g_2
 replace g_3:hasS fQ_3 ver=true→FitWF (FitW ver (d+2)) ver fQ_3 (t.at 3):=g_3
 have hh_3:hasS fQ_3 ver=true:=hasS_t (by show (7:Int)≤ver;omega) (by show (-1:Int) < 0∨ver≤(-1:Int);omega)
 replace g_3:=g_3 hh_3
 obtain ⟨cs,q,hcs,hL,hT⟩:=hR.inv
 obtain ⟨c_0,e_0,rfl,h_0,c_1,e_1,rfl,h_1,c_2,e_2,rfl,h_2,c_3,e_3,rfl,h_3,rfl⟩:=hL
 replace h_0:RepF (RepS true (d+2)) (szS true (d+2)) fQ_0 okM w (t.at 0) c_0:=h_0
 replace h_1:RepF (RepS true (d+2)) (szS true (d+2)) fQ_1 okM w (t.at 1) c_1:=h_1
 replace h_2:RepF (RepS true (d+2)) (szS true (d+2)) frQ_2 okM w (t.at 2) c_2:=h_2
 replace h_3:RepF (RepS true (d+2)) (szS true (d+2)) fQ_3 okM w (t.at 3) c_3:=h_3
 obtain rfl:=(RepF_text rfl (by decide)).1 h_0
 obtain ⟨p_1,L_1,rfl,hLL_1,hs_1,hnn_1⟩:=RepF_listN g_1 rfl (by decide) h_1
 obtain ⟨ab_1,ac_1,rfl,_⟩:=SlR.shape hs_1
 have hni_1:=hnn_1 _ _ _ rfl
 have hgl_1:=g_1.listL rfl hLL_1
 have hll_1:=hgl_1.1
 obtain ⟨p_2,rfl⟩:=RepF_any (by decide) h_2
 obtain rfl:=(RepF_num (by decide)).1 h_3
 obtain ⟨qm,rfl⟩:=hT.shape
 have hv:blk w vb=some (#[.int .i16 ver,strV (t.at 0).s,.slice ab_1 L_1.length ac_1,p_2,.bool (decide ((t.at 3).n % 2=1)),.map qm],63,(0,0)):=by rw [hvb,hcs];rfl
 clear hvb hcs
 obtain ⟨X_0,hXX_0⟩:∃ X,X=uvarS ((t.at 0).s.length+1)++(t.at 0).s:=⟨_,rfl⟩
 obtain ⟨XL_1,hXL_1⟩:∃ X,X=countedS true (nullS fQ_1 ver (t.at 1)) L_1.length 4:=⟨_,rfl⟩
 obtain ⟨XE_1,hXE_1⟩:∃ X,X=L_1.flatMap (fun x=>partS (d+2) fs_X2 ver true x):=⟨_,rfl⟩
 obtain ⟨X_3,hXX_3⟩:∃ X,X=[if decide ((t.at 3).n % 2=1)=true then (1:UInt8) else 0]:=⟨_,rfl⟩
 obtain ⟨XU,hXU⟩:∃ X,X=uvarS t.u.length:=⟨_,rfl⟩
 obtain ⟨XT,hXT⟩:∃ X,X=t.u.flatMap oneTag:=⟨_,rfl⟩
 have hP:partS (d+3) fsr_Q ver true t=(X_0++((XL_1++XE_1)++(X_3++[])))++(XU++XT):=by rw [hXU,hXT];exact partS_yes rfl hfu (plainL_has (by decide) hh_0 ((fieldS_text_t g_0 rfl (by decide)).trans hXX_0.symm) (plainL_has (by decide) hh_1 ((fieldS_listN (g:=(fun x=>partS (d+2) fs_X2 ver true x)) g_1 rfl hLL_1 (fun x _=>valueS_part)).trans (by rw [hXL_1,hXE_1])) (plainL_not hh_2 (plainL_has (by decide) hh_3 ((fieldS_bool rfl).trans hXX_3.symm) rfl))))
 rw [hP] at hlen
 simp only [List.length_append,List.length_nil] at hlen
 have hdK:∀ {r:Value} {w':World} {add:List UInt8},AppR 5 B w v s add r w'→∀ b,b < w'.heap.size→OkS okM w.heap.size b→¬ ownB r b:=fun h b _ hk ho=>(h.frame b ho).elim (hd b hk.2 hk.1) (fun h=>by have:=hk.2;omega)
 have ownK:∀ {r:Value} {w':World} {add:List UInt8} {b:Nat},AppR 5 B w v s add r w'→b < w.heap.size→¬ ownB v b→¬ ownB r b:=fun h hb hn ho=>(h.frame _ ho).elim hn (fun h=>by omega)
 have ha0:AppR 5 B w v s [] v w:=AppR.refl ho
 obtain ⟨w0,hw0⟩:∃ w0,w0=w:=⟨_,rfl⟩
 have hB0:=hB
 have hv_0:=hv
 refine fn_of_W Tryz.func19 rfl Tryz.results19 Tryz.ntmps19 rfl ?_
 repeat ((first|refine qA ?_|apply qB|refine qC ?_|apply qD|apply qE|apply qF|apply qG|apply qH);try simp (disch:=omega) only [go_sem,↓reduceIte,n0,reduceCtorEq,hv_0,hni_1])
 refine (AppendCompactString_fn _ _ _ ha0.own hB0 (t.at 0).s (g_0.text (.inl rfl)) (by simp only [List.length_append,List.length_nil];omega)).mono ?_
 rintro r1 w1 hc1
 rw [← hXX_0] at hc1
 have ha1:=ha0.trans hc1
 have hB1:B≤w1.heap.size:=Nat.le_trans hB ha1.upd.size
 have hv_1:=ha1.upd.blk_some hv hdv
 repeat ((first|refine qA ?_|apply qB|refine qC ?_|apply qD|apply qE|apply qF|apply qG|apply qH);try simp (disch:=omega) only [go_sem,↓reduceIte,n0,reduceCtorEq,hv_1,hni_1])
 refine (AppendCompactNullableArrayLen_fn _ _ _ ha1.own hB1 L_1.length hll_1 (nullS fQ_1 ver (t.at 1)) (by simp only [List.length_append,List.length_nil];omega)).mono ?_
 rintro r2 w2 hc2
 rw [← hXL_1] at hc2
 have ha2:=ha1.trans hc2
 have hB2:B≤w2.heap.size:=Nat.le_trans hB ha2.upd.size
 have hv_2:=ha2.upd.blk_some hv hdv
 repeat ((first|refine qA ?_|apply qB|refine qC ?_|apply qD|apply qE|apply qF|apply qG|apply qH);try simp (disch:=omega) only [go_sem,↓reduceIte,n0,reduceCtorEq,hv_2,hni_1])
 have z1:=ha2
 refine W.exitJ 0 (fun ρ w'=>∃ r,ρ 1=r∧ρ 0 = .pointer (some ⟨vb,0,none⟩)∧ρ 5 = .int .i16 ver∧ρ 6 = .bool true∧AppR 5 B w v s (([]++X_0++XL_1)++XE_1) r w')
  (W.loop (fun ρ w'=>∃ (j:Nat) (r:Value),j≤L_1.length∧ρ 91 = .int .i64 j∧ρ 90 = .int .i64 L_1.length∧ρ 8 = .slice ab_1 L_1.length ac_1∧ρ 1=r∧ρ 0 = .pointer (some ⟨vb,0,none⟩)∧ρ 5 = .int .i16 ver∧ρ 6 = .bool true∧AppR 5 B w v s (([]++X_0++XL_1)++(L_1.take j).flatMap (fun x=>partS (d+2) fs_X2 ver true x)) r w')
   (fun ρ _=>L_1.length - (RowKit.intOf (ρ 91)).toNat) ?_ ?_) ?_
 ·refine ⟨0,_,Nat.zero_le _,?_,?_,?_,?_,?_,?_,?_,ha2.eqs (by rw [List.take_zero,List.flatMap_nil,List.append_nil])⟩<;>simp (disch:=omega) only [go_sem,↓reduceIte,n0,reduceCtorEq]
  all_goals rfl
 ·rintro ρ w3 ⟨j1,r3,hj1,hI1,hN1,hS1,eH,eG,dJ,dI,ha3⟩
  have hB3:B≤w3.heap.size:=Nat.le_trans hB ha3.upd.size
  have hv_3:=ha3.upd.blk_some hv hdv
  by_cases eJ:j1 < L_1.length
  ·obtain ⟨_,b1,o1,x1,ce1,hb1,hok1,hx1,pE,zG,zE,hq1,iF⟩:=SlR.get (size:=3) (by decide) hs_1 eJ
   subst hb1
   have lG:L_1.take (j1+1)=L_1.take j1++[L_1[j1]]:=List.take_succ_eq_append_getElem eJ
   have fI:=take_flatMap_len L_1 (fun x=>partS (d+2) fs_X2 ver true x) (j1+1)
   rw [← hXE_1,lG,List.flatMap_append,List.flatMap_cons,List.flatMap_nil,List.append_nil] at fI
   have pI:=hgl_1.2 _ (List.getElem_mem eJ)
   generalize L_1[j1] = y1 at *
   have cJ:=hd b1 pE hok1
   obtain ⟨T1,l8⟩:∃ T,T=(L_1.take j1).flatMap (fun x=>partS (d+2) fs_X2 ver true x):=⟨_,rfl⟩
   rw [← l8] at ha3 fI
   have pT:=ha3.upd.blk_some hx1 cJ
   replace iF:RepS true (d+2) fs_X2 okM w y1 ce1:=Rep1_part.1 iF
   have pH:FitW ver (d+2) fs_X2 y1:=pI.2 rfl
   obtain ⟨⟨ge1_0,ge1_1,-⟩,fT⟩:=pH
   replace ge1_0:hasS fX2_0 ver=true→FitWF (FitW ver (d+1)) ver fX2_0 (y1.at 0):=ge1_0
   have lI:hasS fX2_0 ver=true:=hasS_t (by show (0:Int)≤ver;omega) (by show (-1:Int) < 0∨ver≤(-1:Int);omega)
   replace ge1_0:=ge1_0 lI
   replace ge1_1:hasS fX2_1 ver=true→FitWF (FitW ver (d+1)) ver fX2_1 (y1.at 1):=ge1_1
   have lO:hasS fX2_1 ver=true:=hasS_t (by show (0:Int)≤ver;omega) (by show (-1:Int) < 0∨ver≤(-1:Int);omega)
   replace ge1_1:=ge1_1 lO
   obtain ⟨cse1,qe1,pG,oZ,jS⟩:=iF.inv
   obtain ⟨ce1_0,ee1_0,rfl,iG,ce1_1,ee1_1,rfl,iH,rfl⟩:=oZ
   replace iG:RepF (RepS true (d+1)) (szS true (d+1)) fX2_0 okM w (y1.at 0) ce1_0:=iG
   replace iH:RepF (RepS true (d+1)) (szS true (d+1)) fX2_1 okM w (y1.at 1) ce1_1:=iH
   obtain rfl:=(RepF_text rfl (by decide)).1 iG
   obtain ⟨pe1_1,rfl,tE⟩:=RepF_listW ge1_1 rfl (by decide) iH
   obtain ⟨abe1_1,ace1_1,rfl,_⟩:=SlR.shape tE
   have rI:=ge1_1.list rfl
   have xU:=rI.1
   obtain ⟨qme1,rfl⟩:=jS.shape
   subst pG
   have cO:x1.1[o1+j1 * 3]? = some (strV (y1.at 0).s):=hq1 0 (by decide)
   have cP:x1.1[o1+(j1 * 3+1)]? = some (.slice abe1_1 (y1.at 1).l.length ace1_1):=hq1 1 (by decide)
   have cM:x1.1[o1+(j1 * 3+2)]? = some (.map qme1):=hq1 2 (by decide)
   obtain ⟨Xe1_0,lE⟩:∃ X,X=uvarS ((y1.at 0).s.length+1)++(y1.at 0).s:=⟨_,rfl⟩
   obtain ⟨XLe1_1,r0⟩:∃ X,X=uvarS ((y1.at 1).l.length+1):=⟨_,rfl⟩
   obtain ⟨XEe1_1,mY⟩:∃ X,X=(y1.at 1).l.flatMap (fun x:Tree=>fixedS x.n 4):=⟨_,rfl⟩
   obtain ⟨XUe1,o9⟩:∃ X,X=uvarS y1.u.length:=⟨_,rfl⟩
   obtain ⟨XTe1,o8⟩:∃ X,X=y1.u.flatMap oneTag:=⟨_,rfl⟩
   have l7:partS (d+2) fs_X2 ver true y1=(Xe1_0++((XLe1_1++XEe1_1)++[]))++(XUe1++XTe1):=by rw [o9,o8];exact partS_yes rfl fT (plainL_has (by decide) lI ((fieldS_text_t ge1_0 rfl (by decide)).trans lE.symm) (plainL_has (by decide) lO ((fieldS_list_t (g:=(fun x:Tree=>fixedS x.n 4)) ge1_1 rfl (by decide) (fun x _=>valueS_num 3 (by decide))).trans (by rw [r0,mY])) rfl))
   rw [l7] at fI
   simp only [List.length_append,List.length_nil] at fI
   repeat ((first|refine qA ?_|apply qB|refine qC ?_|apply qD|apply qE|apply qF|apply qG|apply qH);try simp (disch:=omega) only [go_sem,↓reduceIte,n0,reduceCtorEq,hv_3,pT,hni_1,cO,cP,cM,eH,eG,dJ,dI,hI1,hN1,hS1])
   refine (AppendCompactString_fn _ _ _ ha3.own hB3 (y1.at 0).s (ge1_0.text (.inl rfl)) (by simp only [List.length_append,List.length_nil];omega)).mono ?_
   rintro r4 w4 hc4
   rw [← lE] at hc4
   have ha4:=ha3.trans hc4
   have hB4:B≤w4.heap.size:=Nat.le_trans hB ha4.upd.size
   have hv_4:=ha4.upd.blk_some hv hdv
   have iD:=ha4.upd.blk_some hx1 cJ
   repeat ((first|refine qA ?_|apply qB|refine qC ?_|apply qD|apply qE|apply qF|apply qG|apply qH);try simp (disch:=omega) only [go_sem,↓reduceIte,n0,reduceCtorEq,hv_4,iD,hni_1,cO,cP,cM,eH,eG,dJ,dI,hI1,hN1,hS1])
   refine (AppendCompactArrayLen_fn _ _ _ ha4.own hB4 (y1.at 1).l.length xU (by simp only [List.length_append,List.length_nil];omega)).mono ?_
   rintro r5 w5 hc5
   rw [← r0] at hc5
   have ha5:=ha4.trans hc5
   have hB5:B≤w5.heap.size:=Nat.le_trans hB ha5.upd.size
   have hv_5:=ha5.upd.blk_some hv hdv
   have kU:=ha5.upd.blk_some hx1 cJ
   repeat ((first|refine qA ?_|apply qB|refine qC ?_|apply qD|apply qE|apply qF|apply qG|apply qH);try simp (disch:=omega) only [go_sem,↓reduceIte,n0,reduceCtorEq,hv_5,kU,hni_1,cO,cP,cM,eH,eG,dJ,dI,hI1,hN1,hS1])
   have z2:=ha5
   refine W.exitJ 2 (fun ρ w'=>∃ r,ρ 1=r∧ρ 0 = .pointer (some ⟨vb,0,none⟩)∧ρ 5 = .int .i16 ver∧ρ 6 = .bool true∧ρ 91 = .int .i64 j1∧ρ 90 = .int .i64 L_1.length∧ρ 8 = .slice (some ⟨b1,o1,none⟩) L_1.length ac_1∧ρ 10 = .pointer (some ⟨b1,o1+j1 * 3,none⟩)∧AppR 5 B w v s (([]++X_0++XL_1++T1++Xe1_0++XLe1_1)++XEe1_1) r w')
    (W.loop (fun ρ w'=>∃ (j:Nat) (r:Value),j≤(y1.at 1).l.length∧ρ 123 = .int .i64 j∧ρ 122 = .int .i64 (y1.at 1).l.length∧ρ 12 = .slice abe1_1 (y1.at 1).l.length ace1_1∧ρ 1=r∧ρ 0 = .pointer (some ⟨vb,0,none⟩)∧ρ 5 = .int .i16 ver∧ρ 6 = .bool true∧ρ 91 = .int .i64 j1∧ρ 90 = .int .i64 L_1.length∧ρ 8 = .slice (some ⟨b1,o1,none⟩) L_1.length ac_1∧ρ 10 = .pointer (some ⟨b1,o1+j1 * 3,none⟩)∧AppR 5 B w v s (([]++X_0++XL_1++T1++Xe1_0++XLe1_1)++((y1.at 1).l.take j).flatMap (fun x:Tree=>fixedS x.n 4)) r w')
     (fun ρ _=>(y1.at 1).l.length - (RowKit.intOf (ρ 123)).toNat) ?_ ?_) ?_
   ·refine ⟨0,_,Nat.zero_le _,?_,?_,?_,?_,?_,?_,?_,?_,?_,?_,?_,ha5.eqs (by rw [List.take_zero,List.flatMap_nil,List.append_nil])⟩<;>simp (disch:=omega) only [go_sem,↓reduceIte,n0,reduceCtorEq,eH,eG,dJ,dI,hI1,hN1,hS1]
    all_goals rfl
   ·rintro ρ w6 ⟨j2,r6,hj2,hI2,hN2,hS2,fN,fO,fP,fQ,nB,nA,n9,n8,ha6⟩
    have hB6:B≤w6.heap.size:=Nat.le_trans hB ha6.upd.size
    have hv_6:=ha6.upd.blk_some hv hdv
    have kV:=ha6.upd.blk_some hx1 cJ
    by_cases hlt2:j2 < (y1.at 1).l.length
    ·obtain ⟨_,b2,o2,x2,ce2,hb2,hok2,hx2,pF,zH,zF,hq2,jM⟩:=SlR.get (size:=1) (by decide) tE hlt2
     subst hb2
     have lH:(y1.at 1).l.take (j2+1)=(y1.at 1).l.take j2++[(y1.at 1).l[j2]]:=List.take_succ_eq_append_getElem hlt2
     have eX:=take_flatMap_len (y1.at 1).l (fun x:Tree=>fixedS x.n 4) (j2+1)
     rw [← mY,lH,List.flatMap_append,List.flatMap_cons,List.flatMap_nil,List.append_nil] at eX
     have tW:=rI.2 _ (List.getElem_mem hlt2)
     generalize (y1.at 1).l[j2] = y2 at *
     have eI:=hd b2 pF hok2
     obtain ⟨T2,l9⟩:∃ T,T=((y1.at 1).l.take j2).flatMap (fun x:Tree=>fixedS x.n 4):=⟨_,rfl⟩
     rw [← l9] at ha6 eX
     have u5:=ha6.upd.blk_some hx2 eI
     obtain rfl:=(Rep1_num (by decide)).1 jM
     have fV:x2.1[o2+j2]? = some (.int .i32 (IntKind.i32.wrap y2.n)):=by have:=hq2 0 (by decide);rw [Nat.mul_one] at this;exact this
     obtain ⟨Y2,hY2⟩:∃ Y,Y=fixedS (y2).n 4:=⟨_,rfl⟩
     replace eX:(T2++Y2).length≤XEe1_1.length:=by rw [hY2];exact eX
     simp only [List.length_append] at eX
     repeat ((first|refine qA ?_|apply qB|refine qC ?_|apply qD|apply qE|apply qF|apply qG|apply qH);try simp (disch:=omega) only [go_sem,↓reduceIte,n0,reduceCtorEq,hv_6,kV,u5,hni_1,cO,cP,cM,fV,fN,fO,fP,fQ,nB,nA,n9,n8,hI2,hN2,hS2])
     refine (AppendInt32_fn _ _ _ ha6.own hB6 _ (by simp only [List.length_append,List.length_nil];omega)).mono ?_
     rintro r7 w7 hc7
     rw [wrap32,← hY2] at hc7
     have ha7:=ha6.trans hc7
     have hB7:B≤w7.heap.size:=Nat.le_trans hB ha7.upd.size
     have hv_7:=ha7.upd.blk_some hv hdv
     have eY:=ha7.upd.blk_some hx1 cJ
     have u6:=ha7.upd.blk_some hx2 eI
     repeat ((first|refine qA ?_|apply qB|refine qC ?_|apply qD|apply qE|apply qF|apply qG|apply qH);try simp (disch:=omega) only [go_sem,↓reduceIte,n0,reduceCtorEq,fN,fO,fP,fQ,nB,nA,n9,n8,hI2,hN2,hS2])
     refine ⟨⟨j2+1,_,by omega,rfl,rfl,ha7.eqs ?_⟩,?_⟩
     ·rw [lH,List.flatMap_append,List.flatMap_cons,List.flatMap_nil,List.append_nil,← l9,hY2];simp only [List.append_assoc,List.append_nil,List.nil_append]
     ·simp only [RowKit.intOf];omega
    ·have pK:j2=(y1.at 1).l.length:=by omega
     subst pK
     rw [List.take_length,← mY] at ha6
     repeat ((first|refine qA ?_|apply qB|refine qC ?_|apply qD|apply qE|apply qF|apply qG|apply qH);try simp (disch:=omega) only [go_sem,↓reduceIte,n0,reduceCtorEq,hI2,hN2])
     exact ⟨_,fN,fO,fP,fQ,nB,nA,n9,n8,ha6⟩
   ·rintro ρ w8 ⟨r8,jN,jO,jP,jQ,pR,pQ,pP,pO,ha8⟩
    have hB8:B≤w8.heap.size:=Nat.le_trans hB ha8.upd.size
    have hv_8:=ha8.upd.blk_some hv hdv
    have fA:=ha8.upd.blk_some hx1 cJ
    repeat ((first|refine qA ?_|apply qB|refine qC ?_|apply qD|apply qE|apply qF|apply qG|apply qH);try simp (disch:=omega) only [go_sem,↓reduceIte,n0,reduceCtorEq,hv_8,fA,hni_1,cO,cP,cM,jN,jO,jP,jQ,pR,pQ,pP,pO])
    have F0:TagsM (OkS okM w.heap.size) w8 (.map qme1) y1.u:=(jS.weaken fun b h1 h2=>⟨h2,h1⟩).keep (ha8.upd.keeps fun b hb hk=>hd b hb hk.1)
    refine (TagsLen_fn (ok:=OkS okM w.heap.size) w8 fA (to:=o1+(j1 * 3+2)) cM F0).mono ?_
    rintro _ w8' ⟨rfl,rfl⟩
    have K4:y1.u.length≤32767:=fT.1
    have ew8:IntKind.u32.wrap (y1.u.length:Int)=y1.u.length:=u32_wrap (by omega)
    have ez8:IntKind.u32.wrap (0+(y1.u.length:Int))=y1.u.length:=by rw [Int.zero_add,u32_wrap (by omega)]
    simp (disch:=omega) only [go_sem,↓reduceIte,n0,reduceCtorEq,hv_8,fA,hni_1,cO,cP,cM,jN,jO,jP,jQ,pR,pQ,pP,pO,ew8,ez8]
    refine (AppendUvarint_fn _ _ _ ha8.own hB8 y1.u.length (by omega) (by simp only [List.length_append,List.length_nil];omega)).mono ?_
    rintro r9 w9 hc9
    rw [← o9] at hc9
    have ha9:=ha8.trans hc9
    have hB9:B≤w9.heap.size:=Nat.le_trans hB ha9.upd.size
    have hv_9:=ha9.upd.blk_some hv hdv
    have gE:=ha9.upd.blk_some hx1 cJ
    repeat ((first|refine qA ?_|apply qB|refine qC ?_|apply qD|apply qE|apply qF|apply qG|apply qH);try simp (disch:=omega) only [go_sem,↓reduceIte,n0,reduceCtorEq,hv_9,gE,hni_1,cO,cP,cM,jN,jO,jP,jQ,pR,pQ,pP,pO])
    have AA:TagsM (OkS okM w.heap.size) w9 (.map qme1) y1.u:=(jS.weaken fun b h1 h2=>⟨h2,h1⟩).keep (ha9.upd.keeps fun b hb hk=>hd b hb hk.1)
    refine (AppendEach_fn (ok:=OkS okM w.heap.size) _ _ _ ha9.own hB9 gE (to:=o1+(j1 * 3+2)) cM AA (rising_keys fT) fT.1 (tags_small fT AA) (hdK ha9) (ownK ha9 (blk_lt hx1) cJ) (by simp only [List.length_append,List.length_nil];omega)).mono ?_
    rintro r10 w10 uZ
    rw [← o8] at uZ
    have fC:=ha9.trans uZ
    have yH:B≤w10.heap.size:=Nat.le_trans hB fC.upd.size
    have hv_10:=fC.upd.blk_some hv hdv
    have jL:=fC.upd.blk_some hx1 cJ
    repeat ((first|refine qA ?_|apply qB|refine qC ?_|apply qD|apply qE|apply qF|apply qG|apply qH);try simp (disch:=omega) only [go_sem,↓reduceIte,n0,reduceCtorEq,jN,jO,jP,jQ,pR,pQ,pP,pO])
    refine ⟨⟨j1+1,_,by omega,rfl,rfl,fC.eqs ?_⟩,?_⟩
    ·rw [lG,List.flatMap_append,List.flatMap_cons,List.flatMap_nil,List.append_nil,← l8,l7];simp only [List.append_assoc,List.append_nil,List.nil_append]
    ·simp only [RowKit.intOf];omega
  ·have pJ:j1=L_1.length:=by omega
   subst pJ
   rw [List.take_length,← hXE_1] at ha3
   repeat ((first|refine qA ?_|apply qB|refine qC ?_|apply qD|apply qE|apply qF|apply qG|apply qH);try simp (disch:=omega) only [go_sem,↓reduceIte,n0,reduceCtorEq,hI1,hN1])
   exact ⟨_,eH,eG,dJ,dI,ha3⟩
 ·rintro ρ w11 ⟨r11,gJ,gK,gL,gM,eW⟩
  have uA:B≤w11.heap.size:=Nat.le_trans hB eW.upd.size
  have hv_11:=eW.upd.blk_some hv hdv
  repeat ((first|refine qA ?_|apply qB|refine qC ?_|apply qD|apply qE|apply qF|apply qG|apply qH);try simp (disch:=omega) only [go_sem,↓reduceIte,n0,reduceCtorEq,hv_11,hni_1,gJ,gK,gL,gM])
  refine (AppendBool_fn _ _ _ eW.own uA _ (by simp only [List.length_append,List.length_nil];omega)).mono ?_
  rintro r12 w12 rB
  rw [← hXX_3] at rB
  have fE:=eW.trans rB
  have wO:B≤w12.heap.size:=Nat.le_trans hB fE.upd.size
  have hv_12:=fE.upd.blk_some hv hdv
  repeat ((first|refine qA ?_|apply qB|refine qC ?_|apply qD|apply qE|apply qF|apply qG|apply qH);try simp (disch:=omega) only [go_sem,↓reduceIte,n0,reduceCtorEq,hv_12,hni_1,gJ,gK,gL,gM])
  have yP:TagsM (OkS okM w.heap.size) w12 (.map qm) t.u:=(hT.weaken fun b h1 h2=>⟨h2,h1⟩).keep (fE.upd.keeps fun b hb hk=>hd b hb hk.1)
  refine (TagsLen_fn (ok:=OkS okM w.heap.size) w12 hv_12 (to:=5) (show (#[.int .i16 ver,strV (t.at 0).s,.slice ab_1 L_1.length ac_1,p_2,.bool (decide ((t.at 3).n % 2=1)),.map qm]:Array Value)[5]? = some (.map qm) from rfl) yP).mono ?_
  rintro _ w12' ⟨rfl,rfl⟩
  have K2:t.u.length≤32767:=hfu.1
  have ew12:IntKind.u32.wrap (t.u.length:Int)=t.u.length:=u32_wrap (by omega)
  have ez12:IntKind.u32.wrap (0+(t.u.length:Int))=t.u.length:=by rw [Int.zero_add,u32_wrap (by omega)]
  simp (disch:=omega) only [go_sem,↓reduceIte,n0,reduceCtorEq,hv_12,hni_1,gJ,gK,gL,gM,ew12,ez12]
  refine (AppendUvarint_fn _ _ _ fE.own wO t.u.length (by omega) (by simp only [List.length_append,List.length_nil];omega)).mono ?_
  rintro r13 w13 vA
  rw [← hXU] at vA
  have eZ:=fE.trans vA
  have uC:B≤w13.heap.size:=Nat.le_trans hB eZ.upd.size
  have hv_13:=eZ.upd.blk_some hv hdv
  repeat ((first|refine qA ?_|apply qB|refine qC ?_|apply qD|apply qE|apply qF|apply qG|apply qH);try simp (disch:=omega) only [go_sem,↓reduceIte,n0,reduceCtorEq,hv_13,hni_1,gJ,gK,gL,gM])
  have tU:TagsM (OkS okM w.heap.size) w13 (.map qm) t.u:=(hT.weaken fun b h1 h2=>⟨h2,h1⟩).keep (eZ.upd.keeps fun b hb hk=>hd b hb hk.1)
  refine (AppendEach_fn (ok:=OkS okM w.heap.size) _ _ _ eZ.own uC hv_13 (to:=5) (show (#[.int .i16 ver,strV (t.at 0).s,.slice ab_1 L_1.length ac_1,p_2,.bool (decide ((t.at 3).n % 2=1)),.map qm]:Array Value)[5]? = some (.map qm) from rfl) tU (rising_keys hfu) hfu.1 (tags_small hfu tU) (hdK eZ) (ownK eZ (blk_lt hv) hdv) (by simp only [List.length_append,List.length_nil];omega)).mono ?_
  rintro r14 w14 rC
  rw [← hXT] at rC
  have iB:=eZ.trans rC
  have zO:B≤w14.heap.size:=Nat.le_trans hB iB.upd.size
  have hv_14:=iB.upd.blk_some hv hdv
  repeat ((first|refine qA ?_|apply qB|refine qC ?_|apply qD|apply qE|apply qF|apply qG|apply qH);try simp (disch:=omega) only [go_sem,↓reduceIte,n0,reduceCtorEq,hv_14,hni_1,gJ,gK,gL,gM])
  refine iB.eqs ?_
  rw [hP];simp only [List.append_assoc,List.append_nil,List.nil_append]
end Ms

