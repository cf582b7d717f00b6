/- A part of the proof: see the last text. -/
import Derived.Test.YtmkpongjkjdcaaaGreatDoorC05
import Derived.Test.YtmkpongjkjdcaaaGreatDoorC06
import Derived.Test.YtmkpongjkjdcaaaGreatDoorC07
import Derived.Test.YtmkpongjkjdcaaaGreatDoorC10
import Derived.Test.YtmkpongjkjdcaaaGreatDoorC11
import Derived.Test.YtmkpongjkjdcaaaGreatDoorMetadataRequestP0
import Derived.Test.YtmkpongjkjdcaaaGreatDoorMetadataRequestP4
import Derived.Test.YtmkpongjkjdcaaaGreatDoorMetadataRequestP5
set_option linter.unusedSimpArgs false
set_option linter.unusedVariables false
namespace Ms
open Go.World renaming size_alloc → qI
open Ms renaming size_wr → qJ,size_drew → qK,not_noB → qL
open W renaming seqR → qA,seq → qB,regR → qC,condK → qD,block → qE,skip → qF,ret → qG,exit → qH
open Nat renaming reduceEqDiff → n0,reduceAdd → n1,reduceMul → n2,reduceSub → n3,reduceLT → n4,reduceLeDiff → n5
open Int renaming reduceEq → i0,reduceLT → i1,reduceLE → i2,reduceNeg → i3,reduceAdd → i4,reduceSub → i5,reduceMul → i6,reduceToNat → i7
set_option maxRecDepth 8000
open Go Go.Proofs Go.Shelf
attribute [local congr] W_congr WPsq_congr WPp_congr optK_congr addrK_congr intK_congr boolK_congr sliceK_congr tupleK_congr funcK_congr Fn_congr rawK_congr takeK_congr stepK_congr convK_congr aggK_congr

set_option maxHeartbeats 4000000 in
theorem appQ_6 {d B:Nat} {okM:Blocks} {ver:Int} (hlo:11≤ver) (hhi:ver≤13) (t:Tree) (cells:List Value) (v:Value) (s:List UInt8) (w:World) {vb:Nat} (ho:OwnBy 5 B w v s) (hB:B≤w.heap.size) (hvb:blk w vb=some ((.int .i16 ver :: cells).toArray,68,(0,0)))
  (hR:RepS true (d+2) fs_Q okM w t cells) (hfit:FitW ver (d+2) fs_Q t) (hd:∀ b,b < w.heap.size→okM b→¬ ownB v b) (hdv:¬ ownB v vb) (hlen:s.length+(partS (d+2) fs_Q ver true t).length≤2 ^ 41) :
  Fn Tryz.prog 90 #[.pointer (some ⟨vb,0,none⟩),v] w fun r w'=>AppR 5 B w v s (partS (d+2) fs_Q ver true t) r w':=by
 obtain ⟨⟨g_0,g_1,g_2,g_3,-⟩,hfu⟩:=hfit
 replace g_0:hasS fQ_0 ver=true→FitWF (FitW ver (d+1)) ver fQ_0 (t.at 0):=g_0
 have hh_0:hasS fQ_0 ver=true:=hasS_t (by show (0:Int)≤ver;omega) (by show (-1:Int) < 0∨ver≤(-1:Int);omega)
 replace g_0:=g_0 hh_0
 replace g_1:hasS fQ_1 ver=true→FitWF (FitW ver (d+1)) ver fQ_1 (t.at 1):=g_1
 have hh_1:hasS fQ_1 ver=true:=hasS_t (by show (4:Int)≤ver;omega) (by show (-1:Int) < 0∨ver≤(-1:Int);omega)
 replace g_1:=g_1 hh_1
 replace g_2:hasS fQ_2 ver=true→FitWF (FitW ver (d+1)) ver fQ_2 (t.at 2):=g_2
 have hh_2:hasS fQ_2 ver=false:=hasS_f (by show ver < 8∨(0≤(10:Int)∧(10:Int) < ver);omega)
 clear g_2
 replace g_3:hasS fQ_3 ver=true→FitWF (FitW ver (d+1)) ver fQ_3 (t.at 3):=g_3
 have hh_3:hasS fQ_3 ver=true:=hasS_t (by show (8:Int)≤ver;omega) (by show (-1:Int) < 0∨ver≤(-1:Int);omega)
 replace g_3:=g_3 hh_3
 obtain ⟨cs,q,hcs,hL,hT⟩:=hR.inv
 obtain ⟨c_0,e_0,rfl,h_0,c_1,e_1,rfl,h_1,c_2,e_2,rfl,h_2,c_3,e_3,rfl,h_3,rfl⟩:=hL
 replace h_0:RepF (RepS true (d+1)) (szS true (d+1)) fQ_0 okM w (t.at 0) c_0:=h_0
 replace h_1:RepF (RepS true (d+1)) (szS true (d+1)) fQ_1 okM w (t.at 1) c_1:=h_1
 replace h_2:RepF (RepS true (d+1)) (szS true (d+1)) fQ_2 okM w (t.at 2) c_2:=h_2
 replace h_3:RepF (RepS true (d+1)) (szS true (d+1)) fQ_3 okM w (t.at 3) c_3:=h_3
 obtain ⟨p_0,L_0,rfl,hLL_0,hs_0,hnn_0⟩:=RepF_listN g_0 rfl (by decide) h_0
 obtain ⟨ab_0,ac_0,rfl,_⟩:=SlR.shape hs_0
 have hni_0:=hnn_0 _ _ _ rfl
 have hgl_0:=g_0.listL rfl hLL_0
 have hll_0:=hgl_0.1
 obtain rfl:=(RepF_num (by decide)).1 h_1
 obtain rfl:=(RepF_num (by decide)).1 h_2
 obtain rfl:=(RepF_num (by decide)).1 h_3
 obtain ⟨qm,rfl⟩:=hT.shape
 have hv:blk w vb=some (#[.int .i16 ver,.slice ab_0 L_0.length ac_0,.bool (decide ((t.at 1).n % 2=1)),.bool (decide ((t.at 2).n % 2=1)),.bool (decide ((t.at 3).n % 2=1)),.map qm],68,(0,0)):=by rw [hvb,hcs];rfl
 clear hvb hcs
 obtain ⟨XL_0,hXL_0⟩:∃ X,X=countedS true (nullS fQ_0 ver (t.at 0)) L_0.length 4:=⟨_,rfl⟩
 obtain ⟨XE_0,hXE_0⟩:∃ X,X=L_0.flatMap (fun x=>partS (d+1) fs_X0 ver true x):=⟨_,rfl⟩
 obtain ⟨X_1,hXX_1⟩:∃ X,X=[if decide ((t.at 1).n % 2=1)=true then (1:UInt8) else 0]:=⟨_,rfl⟩
 obtain ⟨X_3,hXX_3⟩:∃ X,X=[if decide ((t.at 3).n % 2=1)=true then (1:UInt8) else 0]:=⟨_,rfl⟩
 obtain ⟨XU,hXU⟩:∃ X,X=uvarS t.u.length:=⟨_,rfl⟩
 obtain ⟨XT,hXT⟩:∃ X,X=t.u.flatMap oneTag:=⟨_,rfl⟩
 have hP:partS (d+2) fs_Q ver true t=((XL_0++XE_0)++(X_1++(X_3++[])))++(XU++XT):=by rw [hXU,hXT];exact partS_yes rfl hfu (plainL_has (by decide) hh_0 ((fieldS_listN (g:=(fun x=>partS (d+1) fs_X0 ver true x)) g_0 rfl hLL_0 (fun x _=>valueS_part)).trans (by rw [hXL_0,hXE_0])) (plainL_has (by decide) hh_1 ((fieldS_bool rfl).trans hXX_1.symm) (plainL_not hh_2 (plainL_has (by decide) hh_3 ((fieldS_bool rfl).trans hXX_3.symm) rfl))))
 rw [hP] at hlen
 simp only [List.length_append,List.length_nil] at hlen
 have hdK:∀ {r:Value} {w':World} {add:List UInt8},AppR 5 B w v s add r w'→∀ b,b < w'.heap.size→OkS okM w.heap.size b→¬ ownB r b:=fun h b _ hk ho=>(h.frame b ho).elim (hd b hk.2 hk.1) (fun h=>by have:=hk.2;omega)
 have ownK:∀ {r:Value} {w':World} {add:List UInt8} {b:Nat},AppR 5 B w v s add r w'→b < w.heap.size→¬ ownB v b→¬ ownB r b:=fun h hb hn ho=>(h.frame _ ho).elim hn (fun h=>by omega)
 have ha0:AppR 5 B w v s [] v w:=AppR.refl ho
 obtain ⟨w0,hw0⟩:∃ w0,w0=w:=⟨_,rfl⟩
 have hB0:=hB
 have hv_0:=hv
 refine fn_of_W Tryz.func90 rfl Tryz.results90 Tryz.ntmps90 rfl ?_
 repeat ((first|refine qA rfl ?_|apply qB|refine qC rfl ?_|apply qD|apply qE|apply qF|apply qG|apply qH);try simp (disch:=(first|omega|(simp only [qI,qJ,qK]<;>omega)|exact qL _)) only [go_sem,↓reduceIte,n0,reduceCtorEq,n1,n2,n3,n4,n5,i0,i1,i2,i3,i4,i5,i6,i7,hv_0,hni_0])
 refine (AppendCompactNullableArrayLen_fn _ _ _ ha0.own hB0 L_0.length hll_0 (nullS fQ_0 ver (t.at 0)) (by simp only [List.length_append,List.length_nil];omega)).mono ?_
 rintro r1 w1 hc1
 rw [← hXL_0] at hc1
 have ha1:=ha0.trans hc1
 have hB1:B≤w1.heap.size:=Nat.le_trans hB ha1.upd.size
 have hv_1:=ha1.upd.blk_some hv hdv
 repeat ((first|refine qA rfl ?_|apply qB|refine qC rfl ?_|apply qD|apply qE|apply qF|apply qG|apply qH);try simp (disch:=(first|omega|(simp only [qI,qJ,qK]<;>omega)|exact qL _)) only [go_sem,↓reduceIte,n0,reduceCtorEq,n1,n2,n3,n4,n5,i0,i1,i2,i3,i4,i5,i6,i7,hv_1,hni_0])
 have jE:=ha1
 refine W.exitJ 0 (fun ρ w'=>∃ r,ρ 1=r∧ρ 0 = .pointer (some ⟨vb,0,none⟩)∧ρ 5 = .int .i16 ver∧ρ 6 = .bool true∧AppR 5 B w v s (([]++XL_0)++XE_0) r w')
  (W.loop (fun ρ w'=>∃ (j:Nat) (r:Value),j≤L_0.length∧ρ 55 = .int .i64 j∧ρ 54 = .int .i64 L_0.length∧ρ 7 = .slice ab_0 L_0.length ac_0∧ρ 1=r∧ρ 0 = .pointer (some ⟨vb,0,none⟩)∧ρ 5 = .int .i16 ver∧ρ 6 = .bool true∧AppR 5 B w v s (([]++XL_0)++(L_0.take j).flatMap (fun x=>partS (d+1) fs_X0 ver true x)) r w')
   (fun ρ _=>L_0.length - (RowKit.intOf (ρ 55)).toNat) ?_ ?_) ?_
 ·refine ⟨0,_,Nat.zero_le _,?_,?_,?_,?_,?_,?_,?_,ha1.eqs (by rw [List.take_zero,List.flatMap_nil,List.append_nil])⟩<;>simp (disch:=(first|omega|(simp only [qI,qJ,qK]<;>omega)|exact qL _)) only [go_sem,↓reduceIte,n0,reduceCtorEq,n1,n2,n3,n4,n5,i0,i1,i2,i3,i4,i5,i6,i7]
  all_goals rfl
 ·rintro ρ w2 ⟨j1,r2,hj1,hI1,hN1,hS1,aY,aX,aZ,b6,ha2⟩
  have hB2:B≤w2.heap.size:=Nat.le_trans hB ha2.upd.size
  have hv_2:=ha2.upd.blk_some hv hdv
  by_cases cZ:j1 < L_0.length
  ·obtain ⟨_,b1,o1,x1,ce1,hb1,hok1,hx1,fE,jL,jK,hq1,cR⟩:=SlR.get (size:=18) (by decide) hs_0 cZ
   subst hb1
   have dP:L_0.take (j1+1)=L_0.take j1++[L_0[j1]]:=List.take_succ_eq_append_getElem cZ
   have bI:=take_flatMap_len L_0 (fun x=>partS (d+1) fs_X0 ver true x) (j1+1)
   rw [← hXE_0,dP,List.flatMap_append,List.flatMap_cons,List.flatMap_nil,List.append_nil] at bI
   have fM:=hgl_0.2 _ (List.getElem_mem cZ)
   generalize L_0[j1] = y1 at *
   have bM:=hd b1 fE hok1
   obtain ⟨T1,dN⟩:∃ T,T=(L_0.take j1).flatMap (fun x=>partS (d+1) fs_X0 ver true x):=⟨_,rfl⟩
   rw [← dN] at ha2 bI
   have eF:=ha2.upd.blk_some hx1 bM
   replace cR:RepS true (d+1) fs_X0 okM w y1 ce1:=Rep1_part.1 cR
   have fJ:FitW ver (d+1) fs_X0 y1:=fM.2 rfl
   obtain ⟨⟨ge1_0,ge1_1,-⟩,dL⟩:=fJ
   replace ge1_0:hasS fX0_0 ver=true→FitWF (FitW ver d) ver fX0_0 (y1.at 0):=ge1_0
   have eM:hasS fX0_0 ver=true:=hasS_t (by show (10:Int)≤ver;omega) (by show (-1:Int) < 0∨ver≤(-1:Int);omega)
   replace ge1_0:=ge1_0 eM
   replace ge1_1:hasS fX0_1 ver=true→FitWF (FitW ver d) ver fX0_1 (y1.at 1):=ge1_1
   have dS:hasS fX0_1 ver=true:=hasS_t (by show (0:Int)≤ver;omega) (by show (-1:Int) < 0∨ver≤(-1:Int);omega)
   replace ge1_1:=ge1_1 dS
   obtain ⟨cse1,qe1,fG,eY,e7⟩:=cR.inv
   obtain ⟨ce1_0,ee1_0,rfl,cW,ce1_1,ee1_1,rfl,cX,rfl⟩:=eY
   replace cW:RepF (RepS true d) (szS true d) fX0_0 okM w (y1.at 0) ce1_0:=cW
   replace cX:RepF (RepS true d) (szS true d) fX0_1 okM w (y1.at 1) ce1_1:=cX
   obtain rfl:=(RepF_uuid rfl).1 cW
   have fY:((uuidS (y1.at 0).s).map byteV).length=16:=by rw [List.length_map,uuidS_len]
   have dQ:=flat_bytes (uuidS (y1.at 0).s)
   generalize iK:(uuidS (y1.at 0).s).map byteV=Ze1_0 at *
   obtain ⟨ze1_0_0,ze1_0_1,ze1_0_2,ze1_0_3,ze1_0_4,ze1_0_5,ze1_0_6,ze1_0_7,ze1_0_8,ze1_0_9,ze1_0_10,ze1_0_11,ze1_0_12,ze1_0_13,ze1_0_14,ze1_0_15,rfl⟩:=list16 fY
   simp only [List.all_cons,List.all_nil,Bool.and_true,Bool.and_eq_true] at dQ
   obtain ⟨fze1_0_0,fze1_0_1,fze1_0_2,fze1_0_3,fze1_0_4,fze1_0_5,fze1_0_6,fze1_0_7,fze1_0_8,fze1_0_9,fze1_0_10,fze1_0_11,fze1_0_12,fze1_0_13,fze1_0_14,fze1_0_15⟩:=dQ
   obtain ⟨pe1_1,rfl,fT⟩:=(RepF_ptr rfl (by decide)).1 cX
   obtain ⟨qme1,rfl⟩:=e7.shape
   subst fG
   have bO:x1.1[o1+j1 * 18]? = some (ze1_0_0):=hq1 0 (by decide)
   have bP:x1.1[o1+(j1 * 18+1)]? = some (ze1_0_1):=hq1 1 (by decide)
   have bZ:x1.1[o1+(j1 * 18+2)]? = some (ze1_0_2):=hq1 2 (by decide)
   have cC:x1.1[o1+(j1 * 18+3)]? = some (ze1_0_3):=hq1 3 (by decide)
   have cD:x1.1[o1+(j1 * 18+4)]? = some (ze1_0_4):=hq1 4 (by decide)
   have cE:x1.1[o1+(j1 * 18+5)]? = some (ze1_0_5):=hq1 5 (by decide)
   have cH:x1.1[o1+(j1 * 18+6)]? = some (ze1_0_6):=hq1 6 (by decide)
   have cI:x1.1[o1+(j1 * 18+7)]? = some (ze1_0_7):=hq1 7 (by decide)
   have cJ:x1.1[o1+(j1 * 18+8)]? = some (ze1_0_8):=hq1 8 (by decide)
   have cM:x1.1[o1+(j1 * 18+9)]? = some (ze1_0_9):=hq1 9 (by decide)
   have bQ:x1.1[o1+(j1 * 18+10)]? = some (ze1_0_10):=hq1 10 (by decide)
   have bR:x1.1[o1+(j1 * 18+11)]? = some (ze1_0_11):=hq1 11 (by decide)
   have bU:x1.1[o1+(j1 * 18+12)]? = some (ze1_0_12):=hq1 12 (by decide)
   have bV:x1.1[o1+(j1 * 18+13)]? = some (ze1_0_13):=hq1 13 (by decide)
   have bW:x1.1[o1+(j1 * 18+14)]? = some (ze1_0_14):=hq1 14 (by decide)
   have bX:x1.1[o1+(j1 * 18+15)]? = some (ze1_0_15):=hq1 15 (by decide)
   have bY:x1.1[o1+(j1 * 18+16)]? = some (pe1_1):=hq1 16 (by decide)
   have bA:x1.1[o1+(j1 * 18+17)]? = some (.map qme1):=hq1 17 (by decide)
   have cO:cellsAt x1.1 (o1+j1 * 18) 16=some (.agg #[ze1_0_0,ze1_0_1,ze1_0_2,ze1_0_3,ze1_0_4,ze1_0_5,ze1_0_6,ze1_0_7,ze1_0_8,ze1_0_9,ze1_0_10,ze1_0_11,ze1_0_12,ze1_0_13,ze1_0_14,ze1_0_15]):=by
    refine cellsAt_of (l:=[ze1_0_0,ze1_0_1,ze1_0_2,ze1_0_3,ze1_0_4,ze1_0_5,ze1_0_6,ze1_0_7,ze1_0_8,ze1_0_9,ze1_0_10,ze1_0_11,ze1_0_12,ze1_0_13,ze1_0_14,ze1_0_15]) (fun j hj => ?_) rfl (by omega)
    rw [show o1+j1 * 18+j=o1+(j1 * 18+(0+j)) by omega]
    exact (hq1 (0+j) (by omega)).trans (get_mid (pre:=[]) (xs:=[ze1_0_0,ze1_0_1,ze1_0_2,ze1_0_3,ze1_0_4,ze1_0_5,ze1_0_6,ze1_0_7,ze1_0_8,ze1_0_9,ze1_0_10,ze1_0_11,ze1_0_12,ze1_0_13,ze1_0_14,ze1_0_15]) (post:=[pe1_1,.map qme1]) hj)
   obtain ⟨Xe1_0,jX⟩:∃ X,X=uuidS (y1.at 0).s:=⟨_,rfl⟩
   obtain ⟨Xe1_1,dO⟩:∃ X,X=if (y1.at 1).null=true then [0] else uvarS ((y1.at 1).s.length+1)++(y1.at 1).s:=⟨_,rfl⟩
   obtain ⟨XUe1,iJ⟩:∃ X,X=uvarS y1.u.length:=⟨_,rfl⟩
   obtain ⟨XTe1,iI⟩:∃ X,X=y1.u.flatMap oneTag:=⟨_,rfl⟩
   have dM:partS (d+1) fs_X0 ver true y1=(Xe1_0++(Xe1_1++[]))++(XUe1++XTe1):=by rw [iJ,iI];exact partS_yes rfl dL (plainL_has (by decide) eM ((fieldS_uuid rfl).trans jX.symm) (plainL_has (by decide) dS ((fieldS_ptr_t ge1_1 rfl (by decide)).trans dO.symm) rfl))
   rw [dM] at bI
   simp only [List.length_append,List.length_nil] at bI
   have lK:cellsAt #[ze1_0_0,ze1_0_1,ze1_0_2,ze1_0_3,ze1_0_4,ze1_0_5,ze1_0_6,ze1_0_7,ze1_0_8,ze1_0_9,ze1_0_10,ze1_0_11,ze1_0_12,ze1_0_13,ze1_0_14,ze1_0_15] 0 16=some (.agg #[ze1_0_0,ze1_0_1,ze1_0_2,ze1_0_3,ze1_0_4,ze1_0_5,ze1_0_6,ze1_0_7,ze1_0_8,ze1_0_9,ze1_0_10,ze1_0_11,ze1_0_12,ze1_0_13,ze1_0_14,ze1_0_15]):=cellsAt_full rfl
   repeat ((first|refine qA rfl ?_|apply qB|refine qC rfl ?_|apply qD|apply qE|apply qF|apply qG|apply qH);try simp (disch:=(first|omega|(simp only [qI,qJ,qK]<;>omega)|exact qL _)) only [go_sem,↓reduceIte,n0,reduceCtorEq,n1,n2,n3,n4,n5,i0,i1,i2,i3,i4,i5,i6,i7,hv_2,eF,hni_0,bO,bP,bZ,cC,cD,cE,cH,cI,cJ,cM,bQ,bR,bU,bV,bW,bX,bY,bA,fze1_0_0,fze1_0_1,fze1_0_2,fze1_0_3,fze1_0_4,fze1_0_5,fze1_0_6,fze1_0_7,fze1_0_8,fze1_0_9,fze1_0_10,fze1_0_11,fze1_0_12,fze1_0_13,fze1_0_14,fze1_0_15,cO,aY,aX,aZ,b6,hI1,hN1,hS1,lK])
   generalize kG:wr (w2.alloc (.cells #[.int .u8 0,.int .u8 0,.int .u8 0,.int .u8 0,.int .u8 0,.int .u8 0,.int .u8 0,.int .u8 0,.int .u8 0,.int .u8 0,.int .u8 0,.int .u8 0,.int .u8 0,.int .u8 0,.int .u8 0,.int .u8 0] 98)) w2.heap.size 0 [ze1_0_0,ze1_0_1,ze1_0_2,ze1_0_3,ze1_0_4,ze1_0_5,ze1_0_6,ze1_0_7,ze1_0_8,ze1_0_9,ze1_0_10,ze1_0_11,ze1_0_12,ze1_0_13,ze1_0_14,ze1_0_15] = w3
   have l3:Ext w2 w3:=by rw [← kG];exact (Upd.alloc (Upd.refl _ _) _).wr _ _ (.inl (Nat.le_refl _))
   clear kG
   have ha3:=ha2.then l3
   have hB3:B≤w3.heap.size:=Nat.le_trans hB ha3.upd.size
   have hv_3:=ha3.upd.blk_some hv hdv
   have hZ:=ha3.upd.blk_some hx1 bM
   have hu3:=AppendUuid_fn r2 _ w3 ha3.own hB3 (uuidS (y1.at 0).s) (uuidS_len _) (by simp only [List.length_append,List.length_nil];omega)
   rw [iK,← jX] at hu3
   refine (hu3).mono ?_
   rintro r4 w4 hc4
   have ha4:=ha3.trans hc4
   have hB4:B≤w4.heap.size:=Nat.le_trans hB ha4.upd.size
   have hv_4:=ha4.upd.blk_some hv hdv
   have jI:=ha4.upd.blk_some hx1 bM
   repeat ((first|refine qA rfl ?_|apply qB|refine qC rfl ?_|apply qD|apply qE|apply qF|apply qG|apply qH);try simp (disch:=(first|omega|(simp only [qI,qJ,qK]<;>omega)|exact qL _)) only [go_sem,↓reduceIte,n0,reduceCtorEq,n1,n2,n3,n4,n5,i0,i1,i2,i3,i4,i5,i6,i7,hv_4,jI,hni_0,bO,bP,bZ,cC,cD,cE,cH,cI,cJ,cM,bQ,bR,bU,bV,bW,bX,bY,bA,fze1_0_0,fze1_0_1,fze1_0_2,fze1_0_3,fze1_0_4,fze1_0_5,fze1_0_6,fze1_0_7,fze1_0_8,fze1_0_9,fze1_0_10,fze1_0_11,fze1_0_12,fze1_0_13,fze1_0_14,fze1_0_15,cO,aY,aX,aZ,b6,hI1,hN1,hS1])
   refine (AppendCompactNullableString_fn (ok:=okM) _ _ _ ha4.own hB4 _ (y1.at 1).null (y1.at 1).s (fT.keep (ha4.upd.keeps hd)) (ge1_1.text (.inl rfl)) (by simp only [List.length_append,List.length_nil];omega)).mono ?_
   rintro r5 w5 hc5
   rw [← dO] at hc5
   have ha5:=ha4.trans hc5
   have hB5:B≤w5.heap.size:=Nat.le_trans hB ha5.upd.size
   have hv_5:=ha5.upd.blk_some hv hdv
   have b7:=ha5.upd.blk_some hx1 bM
   repeat ((first|refine qA rfl ?_|apply qB|refine qC rfl ?_|apply qD|apply qE|apply qF|apply qG|apply qH);try simp (disch:=(first|omega|(simp only [qI,qJ,qK]<;>omega)|exact qL _)) only [go_sem,↓reduceIte,n0,reduceCtorEq,n1,n2,n3,n4,n5,i0,i1,i2,i3,i4,i5,i6,i7,hv_5,b7,hni_0,bO,bP,bZ,cC,cD,cE,cH,cI,cJ,cM,bQ,bR,bU,bV,bW,bX,bY,bA,fze1_0_0,fze1_0_1,fze1_0_2,fze1_0_3,fze1_0_4,fze1_0_5,fze1_0_6,fze1_0_7,fze1_0_8,fze1_0_9,fze1_0_10,fze1_0_11,fze1_0_12,fze1_0_13,fze1_0_14,fze1_0_15,cO,aY,aX,aZ,b6,hI1,hN1,hS1])
   have lH:TagsM (OkS okM w.heap.size) w5 (.map qme1) y1.u:=(e7.weaken fun b h1 h2=>⟨h2,h1⟩).keep (ha5.upd.keeps fun b hb hk=>hd b hb hk.1)
   refine (TagsLen_fn (ok:=OkS okM w.heap.size) w5 b7 (to:=o1+(j1 * 18+17)) bA lH).mono ?_
   rintro _ w5' ⟨rfl,rfl⟩
   have n8:y1.u.length≤32767:=dL.1
   have ew5:IntKind.u32.wrap (y1.u.length:Int)=y1.u.length:=u32_wrap (by omega)
   have ez5:IntKind.u32.wrap (0+(y1.u.length:Int))=y1.u.length:=by rw [Int.zero_add,u32_wrap (by omega)]
   simp (disch:=(first|omega|(simp only [qI,qJ,qK]<;>omega)|exact qL _)) only [go_sem,↓reduceIte,n0,reduceCtorEq,n1,n2,n3,n4,n5,i0,i1,i2,i3,i4,i5,i6,i7,hv_5,b7,hni_0,bO,bP,bZ,cC,cD,cE,cH,cI,cJ,cM,bQ,bR,bU,bV,bW,bX,bY,bA,fze1_0_0,fze1_0_1,fze1_0_2,fze1_0_3,fze1_0_4,fze1_0_5,fze1_0_6,fze1_0_7,fze1_0_8,fze1_0_9,fze1_0_10,fze1_0_11,fze1_0_12,fze1_0_13,fze1_0_14,fze1_0_15,cO,aY,aX,aZ,b6,hI1,hN1,hS1,ew5,ez5]
   refine (AppendUvarint_fn _ _ _ ha5.own hB5 y1.u.length (by omega) (by simp only [List.length_append,List.length_nil];omega)).mono ?_
   rintro r6 w6 hc6
   rw [← iJ] at hc6
   have ha6:=ha5.trans hc6
   have hB6:B≤w6.heap.size:=Nat.le_trans hB ha6.upd.size
   have hv_6:=ha6.upd.blk_some hv hdv
   have dF:=ha6.upd.blk_some hx1 bM
   repeat ((first|refine qA rfl ?_|apply qB|refine qC rfl ?_|apply qD|apply qE|apply qF|apply qG|apply qH);try simp (disch:=(first|omega|(simp only [qI,qJ,qK]<;>omega)|exact qL _)) only [go_sem,↓reduceIte,n0,reduceCtorEq,n1,n2,n3,n4,n5,i0,i1,i2,i3,i4,i5,i6,i7,hv_6,dF,hni_0,bO,bP,bZ,cC,cD,cE,cH,cI,cJ,cM,bQ,bR,bU,bV,bW,bX,bY,bA,fze1_0_0,fze1_0_1,fze1_0_2,fze1_0_3,fze1_0_4,fze1_0_5,fze1_0_6,fze1_0_7,fze1_0_8,fze1_0_9,fze1_0_10,fze1_0_11,fze1_0_12,fze1_0_13,fze1_0_14,fze1_0_15,cO,aY,aX,aZ,b6,hI1,hN1,hS1])
   have jS:TagsM (OkS okM w.heap.size) w6 (.map qme1) y1.u:=(e7.weaken fun b h1 h2=>⟨h2,h1⟩).keep (ha6.upd.keeps fun b hb hk=>hd b hb hk.1)
   refine (AppendEach_fn (ok:=OkS okM w.heap.size) _ _ _ ha6.own hB6 dF (to:=o1+(j1 * 18+17)) bA jS (rising_keys dL) dL.1 (tags_small dL jS) (hdK ha6) (ownK ha6 (blk_lt hx1) bM) (by simp only [List.length_append,List.length_nil];omega)).mono ?_
   rintro r7 w7 hc7
   rw [← iI] at hc7
   have ha7:=ha6.trans hc7
   have hB7:B≤w7.heap.size:=Nat.le_trans hB ha7.upd.size
   have hv_7:=ha7.upd.blk_some hv hdv
   have dK:=ha7.upd.blk_some hx1 bM
   repeat ((first|refine qA rfl ?_|apply qB|refine qC rfl ?_|apply qD|apply qE|apply qF|apply qG|apply qH);try simp (disch:=(first|omega|(simp only [qI,qJ,qK]<;>omega)|exact qL _)) only [go_sem,↓reduceIte,n0,reduceCtorEq,n1,n2,n3,n4,n5,i0,i1,i2,i3,i4,i5,i6,i7,aY,aX,aZ,b6,hI1,hN1,hS1])
   refine ⟨⟨j1+1,_,by omega,rfl,rfl,ha7.eqs ?_⟩,?_⟩
   ·rw [dP,List.flatMap_append,List.flatMap_cons,List.flatMap_nil,List.append_nil,← dN,dM];simp only [List.append_assoc,List.append_nil,List.nil_append]
   ·simp only [RowKit.intOf];omega
  ·have fO:j1=L_0.length:=by omega
   subst fO
   rw [List.take_length,← hXE_0] at ha2
   repeat ((first|refine qA rfl ?_|apply qB|refine qC rfl ?_|apply qD|apply qE|apply qF|apply qG|apply qH);try simp (disch:=(first|omega|(simp only [qI,qJ,qK]<;>omega)|exact qL _)) only [go_sem,↓reduceIte,n0,reduceCtorEq,n1,n2,n3,n4,n5,i0,i1,i2,i3,i4,i5,i6,i7,hI1,hN1])
   exact ⟨_,aY,aX,aZ,b6,ha2⟩
 ·rintro ρ w8 ⟨r8,bB,bC,bD,bE,ha8⟩
  have hB8:B≤w8.heap.size:=Nat.le_trans hB ha8.upd.size
  have hv_8:=ha8.upd.blk_some hv hdv
  repeat ((first|refine qA rfl ?_|apply qB|refine qC rfl ?_|apply qD|apply qE|apply qF|apply qG|apply qH);try simp (disch:=(first|omega|(simp only [qI,qJ,qK]<;>omega)|exact qL _)) only [go_sem,↓reduceIte,n0,reduceCtorEq,n1,n2,n3,n4,n5,i0,i1,i2,i3,i4,i5,i6,i7,hv_8,hni_0,bB,bC,bD,bE])
  refine (AppendBool_fn _ _ _ ha8.own hB8 _ (by simp only [List.length_append,List.length_nil];omega)).mono ?_
  rintro r9 w9 hc9
  rw [← hXX_1] at hc9
  have ha9:=ha8.trans hc9
  have hB9:B≤w9.heap.size:=Nat.le_trans hB ha9.upd.size
  have hv_9:=ha9.upd.blk_some hv hdv
  repeat ((first|refine qA rfl ?_|apply qB|refine qC rfl ?_|apply qD|apply qE|apply qF|apply qG|apply qH);try simp (disch:=(first|omega|(simp only [qI,qJ,qK]<;>omega)|exact qL _)) only [go_sem,↓reduceIte,n0,reduceCtorEq,n1,n2,n3,n4,n5,i0,i1,i2,i3,i4,i5,i6,i7,hv_9,hni_0,bB,bC,bD,bE])
  refine (AppendBool_fn _ _ _ ha9.own hB9 _ (by simp only [List.length_append,List.length_nil];omega)).mono ?_
  rintro r10 w10 iL
  rw [← hXX_3] at iL
  have eE:=ha9.trans iL
  have jN:B≤w10.heap.size:=Nat.le_trans hB eE.upd.size
  have hv_10:=eE.upd.blk_some hv hdv
  repeat ((first|refine qA rfl ?_|apply qB|refine qC rfl ?_|apply qD|apply qE|apply qF|apply qG|apply qH);try simp (disch:=(first|omega|(simp only [qI,qJ,qK]<;>omega)|exact qL _)) only [go_sem,↓reduceIte,n0,reduceCtorEq,n1,n2,n3,n4,n5,i0,i1,i2,i3,i4,i5,i6,i7,hv_10,hni_0,bB,bC,bD,bE])
  have kQ:TagsM (OkS okM w.heap.size) w10 (.map qm) t.u:=(hT.weaken fun b h1 h2=>⟨h2,h1⟩).keep (eE.upd.keeps fun b hb hk=>hd b hb hk.1)
  refine (TagsLen_fn (ok:=OkS okM w.heap.size) w10 hv_10 (to:=5) (show (#[.int .i16 ver,.slice ab_0 L_0.length ac_0,.bool (decide ((t.at 1).n % 2=1)),.bool (decide ((t.at 2).n % 2=1)),.bool (decide ((t.at 3).n % 2=1)),.map qm]:Array Value)[5]? = some (.map qm) from rfl) kQ).mono ?_
  rintro _ w10' ⟨rfl,rfl⟩
  have nC:t.u.length≤32767:=hfu.1
  have ew10:IntKind.u32.wrap (t.u.length:Int)=t.u.length:=u32_wrap (by omega)
  have ez10:IntKind.u32.wrap (0+(t.u.length:Int))=t.u.length:=by rw [Int.zero_add,u32_wrap (by omega)]
  simp (disch:=(first|omega|(simp only [qI,qJ,qK]<;>omega)|exact qL _)) only [go_sem,↓reduceIte,n0,reduceCtorEq,n1,n2,n3,n4,n5,i0,i1,i2,i3,i4,i5,i6,i7,hv_10,hni_0,bB,bC,bD,bE,ew10,ez10]
  refine (AppendUvarint_fn _ _ _ eE.own jN t.u.length (by omega) (by simp only [List.length_append,List.length_nil];omega)).mono ?_
  rintro r11 w11 iM
  rw [← hXU] at iM
  have eI:=eE.trans iM
  have kN:B≤w11.heap.size:=Nat.le_trans hB eI.upd.size
  have hv_11:=eI.upd.blk_some hv hdv
  repeat ((first|refine qA rfl ?_|apply qB|refine qC rfl ?_|apply qD|apply qE|apply qF|apply qG|apply qH);try simp (disch:=(first|omega|(simp only [qI,qJ,qK]<;>omega)|exact qL _)) only [go_sem,↓reduceIte,n0,reduceCtorEq,n1,n2,n3,n4,n5,i0,i1,i2,i3,i4,i5,i6,i7,hv_11,hni_0,bB,bC,bD,bE])
  have kR:TagsM (OkS okM w.heap.size) w11 (.map qm) t.u:=(hT.weaken fun b h1 h2=>⟨h2,h1⟩).keep (eI.upd.keeps fun b hb hk=>hd b hb hk.1)
  refine (AppendEach_fn (ok:=OkS okM w.heap.size) _ _ _ eI.own kN hv_11 (to:=5) (show (#[.int .i16 ver,.slice ab_0 L_0.length ac_0,.bool (decide ((t.at 1).n % 2=1)),.bool (decide ((t.at 2).n % 2=1)),.bool (decide ((t.at 3).n % 2=1)),.map qm]:Array Value)[5]? = some (.map qm) from rfl) kR (rising_keys hfu) hfu.1 (tags_small hfu kR) (hdK eI) (ownK eI (blk_lt hv) hdv) (by simp only [List.length_append,List.length_nil];omega)).mono ?_
  rintro r12 w12 jY
  rw [← hXT] at jY
  have gG:=eI.trans jY
  have lT:B≤w12.heap.size:=Nat.le_trans hB gG.upd.size
  have hv_12:=gG.upd.blk_some hv hdv
  repeat ((first|refine qA rfl ?_|apply qB|refine qC rfl ?_|apply qD|apply qE|apply qF|apply qG|apply qH);try simp (disch:=(first|omega|(simp only [qI,qJ,qK]<;>omega)|exact qL _)) only [go_sem,↓reduceIte,n0,reduceCtorEq,n1,n2,n3,n4,n5,i0,i1,i2,i3,i4,i5,i6,i7,hv_12,hni_0,bB,bC,bD,bE])
  refine gG.eqs ?_
  rw [hP];simp only [List.append_assoc,List.append_nil,List.nil_append]

theorem KeyQ_fn (w:World) (vb:Nat):Fn Tryz.prog 93 #[.pointer (some ⟨vb,0,none⟩)] w fun r w'=>r = .int .i16 3∧w'=w:=by
 refine fn_of_W Tryz.func93 rfl Tryz.results93 Tryz.ntmps93 rfl ?_
 repeat ((first|refine qA rfl ?_|apply qB|refine qC rfl ?_|apply qD|apply qE|apply qF|apply qG|apply qH);try simp (maxSteps:=1000000)(disch:=(first|omega|(simp only [qI,qJ,qK]<;>omega)|exact qL _)) only [go_sem,↓reduceIte,n0,reduceCtorEq,n1,n2,n3,n4,n5,i0,i1,i2,i3,i4,i5,i6,i7])
 all_goals first|rfl|exact ⟨rfl,rfl⟩
theorem GetVQ_fn (w:World) {vb:Nat} {ver:Int} {cells:List Value} (hb:blk w vb=some ((.int .i16 ver :: cells).toArray,68,(0,0))):Fn Tryz.prog 91 #[.pointer (some ⟨vb,0,none⟩)] w fun r w'=>r = .int .i16 ver∧w'=w:=by
 refine fn_of_W Tryz.func91 rfl Tryz.results91 Tryz.ntmps91 rfl ?_
 repeat ((first|refine qA rfl ?_|apply qB|refine qC rfl ?_|apply qD|apply qE|apply qF|apply qG|apply qH);try simp (maxSteps:=1000000)(disch:=(first|omega|(simp only [qI,qJ,qK]<;>omega)|exact qL _)) only [go_sem,↓reduceIte,n0,reduceCtorEq,n1,n2,n3,n4,n5,i0,i1,i2,i3,i4,i5,i6,i7,hb])
 all_goals first|rfl|exact ⟨rfl,rfl⟩
theorem IsFlexQ_fn (w:World) {vb:Nat} {ver:Int} {cells:List Value} (hlo:0≤ver) (hhi:ver≤13) (hb:blk w vb=some ((.int .i16 ver :: cells).toArray,68,(0,0))):Fn Tryz.prog 92 #[.pointer (some ⟨vb,0,none⟩)] w fun r w'=>r = .bool (flexB 9 ver)∧w'=w:=by
 refine fn_of_W Tryz.func92 rfl Tryz.results92 Tryz.ntmps92 rfl ?_
 by_cases hv:9≤ver
 ·repeat ((first|refine qA rfl ?_|apply qB|refine qC rfl ?_|apply qD|apply qE|apply qF|apply qG|apply qH);try simp (maxSteps:=1000000)(disch:=(first|omega|(simp only [qI,qJ,qK]<;>omega)|exact qL _)) only [go_sem,↓reduceIte,n0,reduceCtorEq,n1,n2,n3,n4,n5,i0,i1,i2,i3,i4,i5,i6,i7,hb])
  all_goals simp [flexB]<;>omega
 ·repeat ((first|refine qA rfl ?_|apply qB|refine qC rfl ?_|apply qD|apply qE|apply qF|apply qG|apply qH);try simp (maxSteps:=1000000)(disch:=(first|omega|(simp only [qI,qJ,qK]<;>omega)|exact qL _)) only [go_sem,↓reduceIte,n0,reduceCtorEq,n1,n2,n3,n4,n5,i0,i1,i2,i3,i4,i5,i6,i7,hb])
  all_goals simp [flexB]<;>omega
theorem mKeyQ : methodP Tryz.prog 46 "Key" = some (93,true) := by kernel_rfl
theorem kKeyQ : callable Tryz.prog 93=true:=by kernel_rfl
theorem mGetVQ : methodP Tryz.prog 46 "GetVersion" = some (91,true) := by kernel_rfl
theorem kGetVQ : callable Tryz.prog 91=true:=by kernel_rfl
theorem mIsFlexQ : methodP Tryz.prog 46 "IsFlexible" = some (92,true) := by kernel_rfl
theorem kIsFlexQ : callable Tryz.prog 92=true:=by kernel_rfl
theorem mAppQ : methodP Tryz.prog 46 "AppendTo" = some (90,true) := by kernel_rfl
theorem kAppQ : callable Tryz.prog 90=true:=by kernel_rfl
theorem recvQ : recvOk Tryz.prog 46 true=true:=by kernel_rfl

set_option maxHeartbeats 2000000 in
theorem reqQ {d:Nat} {ver:Int} {vb B:Nat} {cells:List Value} {t:Tree} (hlo:0≤ver) (hhi:ver≤13) (hvb:vb < B) (hcn:partS (d+2) fs_Q ver (flexB 9 ver) (cnP (d+2) ver (flexB 9 ver) fs_Q t)=(partS (d+2) fs_Q ver (flexB 9 ver) t)∧FitW ver (d+2) fs_Q (cnP (d+2) ver (flexB 9 ver) fs_Q t)) (hl:(partS (d+2) fs_Q ver (flexB 9 ver) t).length≤2 ^ 40) :
  ReqOk Tryz.prog 5 46 (.pointer (some ⟨vb,0,none⟩)) B 3 ver (flexB 9 ver) (partS (d+2) fs_Q ver (flexB 9 ver) t) (fun w=>(blk w vb=some ((.int .i16 ver :: cells).toArray,68,(0,0)))∧RepS true (d+2) fs_Q (fun b=>b < B) w (cnP (d+2) ver (flexB 9 ver) fs_Q t) cells):=by
 refine ⟨fun w w' h hu=>⟨hu.blk_some h.1 (by omega),?_⟩,recvQ,⟨_,mKeyQ,kKeyQ,fun w _=>KeyQ_fn w vb⟩,⟨_,mGetVQ,kGetVQ,fun w h=>GetVQ_fn w h.1⟩,⟨_,mIsFlexQ,kIsFlexQ,fun w h=>IsFlexQ_fn w hlo hhi h.1⟩,⟨_,mAppQ,kAppQ,fun w v s B' h hB hB' ho hs => ?_⟩⟩
 ·exact (RepS_lay true (d+2) fs_Q).keep h.2 (hu.keeps fun b _ hk hb=>by omega)
 have hcl:(0≤ver∧ver≤0)∨(1≤ver∧ver≤3)∨(4≤ver∧ver≤7)∨(8≤ver∧ver≤8)∨(9≤ver∧ver≤9)∨(10≤ver∧ver≤10)∨(11≤ver∧ver≤13):=by omega
 rcases hcl with ⟨h1,h2⟩|⟨h1,h2⟩|⟨h1,h2⟩|⟨h1,h2⟩|⟨h1,h2⟩|⟨h1,h2⟩|⟨h1,h2⟩
 ·have hfl:flexB 9 ver=false:=by simp only [flexB,Bool.and_eq_false_iff,decide_eq_false_iff_not];omega
  rw [hfl] at hcn h hl ⊢
  refine (appQ_0 (d:=d) (B:=B') h1 h2 _ cells v s w ho hB' h.1 h.2 hcn.2 (fun b hb h1 h2=>by have:=Own.above ho h2;omega) (fun h=>by have:=Own.above ho h;omega) (by rw [hcn.1];omega)).mono ?_
  intro r w' h6
  rw [hcn.1] at h6
  exact h6
 ·have hfl:flexB 9 ver=false:=by simp only [flexB,Bool.and_eq_false_iff,decide_eq_false_iff_not];omega
  rw [hfl] at hcn h hl ⊢
  refine (appQ_1 (d:=d) (B:=B') h1 h2 _ cells v s w ho hB' h.1 h.2 hcn.2 (fun b hb h1 h2=>by have:=Own.above ho h2;omega) (fun h=>by have:=Own.above ho h;omega) (by rw [hcn.1];omega)).mono ?_
  intro r w' h6
  rw [hcn.1] at h6
  exact h6
 ·have hfl:flexB 9 ver=false:=by simp only [flexB,Bool.and_eq_false_iff,decide_eq_false_iff_not];omega
  rw [hfl] at hcn h hl ⊢
  refine (appQ_2 (d:=d) (B:=B') h1 h2 _ cells v s w ho hB' h.1 h.2 hcn.2 (fun b hb h1 h2=>by have:=Own.above ho h2;omega) (fun h=>by have:=Own.above ho h;omega) (by rw [hcn.1];omega)).mono ?_
  intro r w' h6
  rw [hcn.1] at h6
  exact h6
 ·have hfl:flexB 9 ver=false:=by simp only [flexB,Bool.and_eq_false_iff,decide_eq_false_iff_not];omega
  rw [hfl] at hcn h hl ⊢
  refine (appQ_3 (d:=d) (B:=B') h1 h2 _ cells v s w ho hB' h.1 h.2 hcn.2 (fun b hb h1 h2=>by have:=Own.above ho h2;omega) (fun h=>by have:=Own.above ho h;omega) (by rw [hcn.1];omega)).mono ?_
  intro r w' h6
  rw [hcn.1] at h6
  exact h6
 ·have hfl:flexB 9 ver=true:=by simp only [flexB,Bool.and_eq_true,decide_eq_true_eq];omega
  rw [hfl] at hcn h hl ⊢
  refine (appQ_4 (d:=d) (B:=B') h1 h2 _ cells v s w ho hB' h.1 h.2 hcn.2 (fun b hb h1 h2=>by have:=Own.above ho h2;omega) (fun h=>by have:=Own.above ho h;omega) (by rw [hcn.1];omega)).mono ?_
  intro r w' h6
  rw [hcn.1] at h6
  exact h6
 ·have hfl:flexB 9 ver=true:=by simp only [flexB,Bool.and_eq_true,decide_eq_true_eq];omega
  rw [hfl] at hcn h hl ⊢
  refine (appQ_5 (d:=d) (B:=B') h1 h2 _ cells v s w ho hB' h.1 h.2 hcn.2 (fun b hb h1 h2=>by have:=Own.above ho h2;omega) (fun h=>by have:=Own.above ho h;omega) (by rw [hcn.1];omega)).mono ?_
  intro r w' h6
  rw [hcn.1] at h6
  exact h6
 ·have hfl:flexB 9 ver=true:=by simp only [flexB,Bool.and_eq_true,decide_eq_true_eq];omega
  rw [hfl] at hcn h hl ⊢
  refine (appQ_6 (d:=d) (B:=B') h1 h2 _ cells v s w ho hB' h.1 h.2 hcn.2 (fun b hb h1 h2=>by have:=Own.above ho h2;omega) (fun h=>by have:=Own.above ho h;omega) (by rw [hcn.1];omega)).mono ?_
  intro r w' h6
  rw [hcn.1] at h6
  exact h6

set_option maxHeartbeats 2000000 in
theorem FrameQ_fn {d:Nat} {ok:Blocks} {ev:Value} (ver:Nat) (hv:ver≤13) (t:Tree) (has:Bool) (id:List UInt8) (number:Int) (b:Value) (w:World) (hb:BytesV ok w b (partS (d+2) fs_Q ver (flexB 9 ver) t)) (hG:Glo ev w) (hrd:rdP (d+2) ver (flexB 9 ver) fs_Q (some (partS (d+2) fs_Q ver (flexB 9 ver) t))=(cnP (d+2) ver (flexB 9 ver) fs_Q t,some []))
  (hcn:partS (d+2) fs_Q ver (flexB 9 ver) (cnP (d+2) ver (flexB 9 ver) fs_Q t)=(partS (d+2) fs_Q ver (flexB 9 ver) t)∧FitW ver (d+2) fs_Q (cnP (d+2) ver (flexB 9 ver) fs_Q t)) (hl:(partS (d+2) fs_Q ver (flexB 9 ver) t).length≤2 ^ 40) (hid:id.length≤32767) (hkv:¬ ((3:Int)=7∧(ver:Int)=0)) :
  Fn Tryz.prog 10 #[.agg #[.bool has,strV id],.int .i32 number,.int .i64 ver,b] w fun r w'=>(∃ v,r = .tuple #[v,.bool true]∧OwnBy 5 w.heap.size w' v (frameS 3 ver number (!has) id (flexB 9 ver) (partS (d+2) fs_Q ver (flexB 9 ver) t)))∧Ext w w':=by
 obtain ⟨ba,bc,rfl,_⟩:=hb.shape
 have hgl:=hG.lt
 have ew:IntKind.i16.wrap (ver:Int)=ver:=i16_wrap (by omega)
 have hE0:Ext w (w.alloc (.cells #[.bool has,strV id] 23)):=Upd.alloc (Upd.refl _ _) _
 have hz0:(w.alloc (.cells #[.bool has,strV id] 23)).heap.size=w.heap.size+1:=World.size_alloc _ _
 have hi0:blk (w.alloc (.cells #[.bool has,strV id] 23)) w.heap.size=some (#[.bool has,strV id],23,(0,0)):=blk_alloc_new rfl
 refine fn_of_W Tryz.func10 rfl Tryz.results10 Tryz.ntmps10 rfl ?_
 repeat ((first|refine qA rfl ?_|apply qB|refine qC rfl ?_|apply qD|apply qE|apply qF|apply qG|apply qH);try simp (maxSteps:=1000000)(disch:=(first|omega|(simp only [qI,qJ,qK]<;>omega)|exact qL _)) only [go_sem,↓reduceIte,n0,reduceCtorEq,n1,n2,n3,n4,n5,i0,i1,i2,i3,i4,i5,i6,i7,ew,cells_strV,flat_strV])
 generalize (w.alloc (.cells #[.bool has,strV id] 23))=w0 at *
 refine (NewPtrQ_fn w0).mono ?_
 rintro _ w1 ⟨rfl,hb1,hE1⟩
 have hz1:=blk_lt hb1
 repeat ((first|refine qA rfl ?_|apply qB|refine qC rfl ?_|apply qD|apply qE|apply qF|apply qG|apply qH);try simp (maxSteps:=1000000)(disch:=(first|omega|(simp only [qI,qJ,qK]<;>omega)|exact qL _)) only [go_sem,↓reduceIte,n0,reduceCtorEq,n1,n2,n3,n4,n5,i0,i1,i2,i3,i4,i5,i6,i7,ew])
 refine (SetVersionQ_fn w1 (vb:=w0.heap.size) ver hb1).mono ?_
 rintro _ w2 ⟨hb2,hU2⟩
 have hz2:=hU2.size
 have hE2:Ext w0 w2:=hE1.more hU2 fun b hb h=>by omega
 repeat ((first|refine qA rfl ?_|apply qB|refine qC rfl ?_|apply qD|apply qE|apply qF|apply qG|apply qH);try simp (maxSteps:=1000000)(disch:=(first|omega|(simp only [qI,qJ,qK]<;>omega)|exact qL _)) only [go_sem,↓reduceIte,n0,reduceCtorEq,n1,n2,n3,n4,n5,i0,i1,i2,i3,i4,i5,i6,i7,ew])
 refine wp_copyN ap_24_24 (ok:=ok) (s:=(partS (d+2) fs_Q ver (flexB 9 ver) t)) (v:=.slice ba _ bc) (by first|rfl|simp (maxSteps:=1000000)(disch:=(first|omega|(simp only [qI,qJ,qK]<;>omega)|exact qL _)) only [go_sem,↓reduceIte,n0,reduceCtorEq,n1,n2,n3,n4,n5,i0,i1,i2,i3,i4,i5,i6,i7]) (by first|rfl|simp (maxSteps:=1000000)(disch:=(first|omega|(simp only [qI,qJ,qK]<;>omega)|exact qL _)) only [go_sem,↓reduceIte,n0,reduceCtorEq,n1,n2,n3,n4,n5,i0,i1,i2,i3,i4,i5,i6,i7]) (hb.keep (Ext.keeps (hE0.trans hE2) _)) (by omega) ?_
 intro v3 w3 ho3 hE3 hf3
 have hz3:=hE3.size
 have hb3:=hE3.blk_some hb2 _root_.id
 have hG3:Glo ev w3:=hG.updS ((hE0.trans hE2).trans hE3) _root_.id _root_.id
 obtain ⟨a3,c3,rfl,_⟩:=ho3.shape
 try simp (maxSteps:=1000000)(disch:=(first|omega|(simp only [qI,qJ,qK]<;>omega)|exact qL _)) only [go_sem,↓reduceIte,n0,reduceCtorEq,n1,n2,n3,n4,n5,i0,i1,i2,i3,i4,i5,i6,i7]
 refine (ReadFromQ_fn (d:=d) (ok:=fun b=>b < w3.heap.size∧b≠w0.heap.size) (ev:=ev) (ver:=ver) (by omega) (by omega) w3 _ _ hb3 ((Own.bytes ho3 hf3).weaken fun b hb hk=>⟨hb,by omega⟩) (fun b hb=>hb) hG3 ⟨by omega,by omega⟩).mono ?_
 rintro r4 w4 ⟨_,h4,hU4⟩
 rw [hrd] at h4
 obtain ⟨rfl,cells,hb4,hR4⟩:=h4 (by simp)
 have hz4:=hU4.size
 have hE4:Ext w0 w4:=(hE2.trans hE3).more hU4 fun b hb h=>by omega
 have hE04:=hE0.trans hE4
 have hi4:=hE4.blk_some hi0 _root_.id
 have hR4':RepS true (d+2) fs_Q (fun b=>b < w4.heap.size) w4 (cnP (d+2) ver (flexB 9 ver) fs_Q t) cells:=(RepS_lay true (d+2) fs_Q).weaken hR4 fun b hb _=>hb
 try simp (maxSteps:=1000000)(disch:=(first|omega|(simp only [qI,qJ,qK]<;>omega)|exact qL _)) only [go_sem,↓reduceIte,n0,reduceCtorEq,n1,n2,n3,n4,n5,i0,i1,i2,i3,i4,i5,i6,i7]
 repeat ((first|refine qA rfl ?_|apply qB|refine qC rfl ?_|apply qD|apply qE|apply qF|apply qG|apply qH);try simp (maxSteps:=1000000)(disch:=(first|omega|(simp only [qI,qJ,qK]<;>omega)|exact qL _)) only [go_sem,↓reduceIte,n0,reduceCtorEq,n1,n2,n3,n4,n5,i0,i1,i2,i3,i4,i5,i6,i7,hi4,cellsAt_two])
 refine (framed_fn (reqQ (d:=d) (B:=w4.heap.size) (vb:=w0.heap.size) (cells:=cells) (t:=t) (by omega) (by omega) (by omega) hcn hl) rfl w4 ⟨hb4,hR4'⟩ (Nat.le_refl _) has id hid hl number hkv).mono ?_
 rintro r5 w5 ⟨ho5,hE5⟩
 obtain ⟨a5,c5,rfl,_⟩:=ho5.shape
 repeat (first|simp (maxSteps:=1000000)(disch:=(first|omega|(simp only [qI,qJ,qK]<;>omega)|exact qL _)) only [go_sem,↓reduceIte,n0,reduceCtorEq,n1,n2,n3,n4,n5,i0,i1,i2,i3,i4,i5,i6,i7]|refine qA rfl ?_|apply qB|refine qC rfl ?_|apply qD|apply qE|apply qF|apply qG|apply qH)
 exact ⟨⟨_,rfl,Own.mono ho5 hE04.size⟩,hE04.trans hE5⟩


set_option maxHeartbeats 4000000 in
theorem law_FrameQ {ok:Blocks} {ev:Value} (n:Nat) (hn:n < 256) (has:Bool) (id:List UInt8) (number:Int) (hnum : -2147483648≤number∧number < 2147483648) (t:Tree) (ct:List Value) (w:World) (ht:TreeC ok w t ct) (hsm:Small 4611686018427387903 t) (hG:Glo ev w) {N:Nat} (hN:N≤1048576) (hsz:Sized N t) :
  Fn Tryz.prog 3 #[.int .u8 n,.agg #[.bool has,strV id],.int .i32 number,.agg ct.toArray] w fun r w'=>r = .bool true∧Ext w w':=by
 obtain ⟨vS,vL,vU,rfl,hn',hS,hL,hU⟩:=ht.inv
 have f1:=hS.flat
 have f2:=SlR.flat hL
 have f3:=SlR.flat hU
 have hE:Ext w ((w.alloc (.cells #[.bool has,strV id] 23)).alloc (.cells #[.int .i64 t.n,vS,.bool t.null,vL,vU] 28)):=Upd.alloc (Upd.alloc (Upd.refl _ _) _) _
 refine fn_of_W Tryz.func3 rfl Tryz.results3 Tryz.ntmps3 rfl ?_
 repeat ((first|refine qA rfl ?_|apply qB|refine qC rfl ?_|apply qD|apply qE|apply qF|apply qG|apply qH);try simp (maxSteps:=1000000)(disch:=(first|omega|(simp only [qI,qJ,qK]<;>omega)|exact qL _)) only [go_sem,↓reduceIte,n0,reduceCtorEq,n1,n2,n3,n4,n5,i0,i1,i2,i3,i4,i5,i6,i7,f1,f2,f3,cellsAt_five,cellsAt_two,cells_strV,flat_strV])
 have hi1:blk ((w.alloc (.cells #[.bool has,strV id] 23)).alloc (.cells #[.int .i64 t.n,vS,.bool t.null,vL,vU] 28)) w.heap.size=some (#[.bool has,strV id],23,(0,0)):=by simp (maxSteps:=1000000)(disch:=(first|omega|(simp only [qI,qJ,qK]<;>omega)|exact qL _)) only [go_sem,↓reduceIte,n0,reduceCtorEq,n1,n2,n3,n4,n5,i0,i1,i2,i3,i4,i5,i6,i7]
 have hb:blk ((w.alloc (.cells #[.bool has,strV id] 23)).alloc (.cells #[.int .i64 t.n,vS,.bool t.null,vL,vU] 28)) (w.heap.size+1)=some (#[.int .i64 t.n,vS,.bool t.null,vL,vU],28,(0,0)):=by simp (maxSteps:=1000000)(disch:=(first|omega|(simp only [qI,qJ,qK]<;>omega)|exact qL _)) only [go_sem,↓reduceIte,n0,reduceCtorEq,n1,n2,n3,n4,n5,i0,i1,i2,i3,i4,i5,i6,i7]
 generalize ((w.alloc (.cells #[.bool has,strV id] 23)).alloc (.cells #[.int .i64 t.n,vS,.bool t.null,vL,vU] 28))=w1 at *
 refine (zzFits4_fn has id w1).mono ?_
 rintro r2 w2 ⟨⟨b4,rfl⟩,hE2⟩
 have hE02:=hE.trans hE2
 have hi2:=hE2.blk_some hi1 _root_.id
 have hb2:=hE2.blk_some hb _root_.id
 cases b4 with
 | false =>
  repeat (first|simp (maxSteps:=1000000)(disch:=(first|omega|(simp only [qI,qJ,qK]<;>omega)|exact qL _)) only [go_sem,↓reduceIte,n0,reduceCtorEq,n1,n2,n3,n4,n5,i0,i1,i2,i3,i4,i5,i6,i7]|refine qA rfl ?_|apply qB|refine qC rfl ?_|apply qD|apply qE|apply qF|apply qG|apply qH)
  all_goals exact hE02
 | true =>
  try simp (maxSteps:=1000000)(disch:=(first|omega|(simp only [qI,qJ,qK]<;>omega)|exact qL _)) only [go_sem,↓reduceIte,n0,reduceCtorEq,n1,n2,n3,n4,n5,i0,i1,i2,i3,i4,i5,i6,i7,hb2,cellsAt_five]
  refine (zzFits1_fn (ok:=ok) t _ w2 (ht.keep (Ext.keeps hE02 _)) hsm).mono ?_
  rintro r3 w3 ⟨⟨bb,rfl⟩,hE3⟩
  have hE03:=hE02.trans hE3
  have hi3:=hE3.blk_some hi2 _root_.id
  have hb3:=hE3.blk_some hb2 _root_.id
  cases bb with
  | false =>
   repeat (first|simp (maxSteps:=1000000)(disch:=(first|omega|(simp only [qI,qJ,qK]<;>omega)|exact qL _)) only [go_sem,↓reduceIte,n0,reduceCtorEq,n1,n2,n3,n4,n5,i0,i1,i2,i3,i4,i5,i6,i7]|refine qA rfl ?_|apply qB|refine qC rfl ?_|apply qD|apply qE|apply qF|apply qG|apply qH)
   all_goals exact hE03
  | true =>
   repeat (first|simp (maxSteps:=1000000)(disch:=(first|omega|(simp only [qI,qJ,qK]<;>omega)|exact qL _)) only [go_sem,↓reduceIte,n0,reduceCtorEq,n1,n2,n3,n4,n5,i0,i1,i2,i3,i4,i5,i6,i7]|refine qA rfl ?_|apply qB|refine qC rfl ?_|apply qD|apply qE|apply qF|apply qG|apply qH)
   refine (MaxQ_fn w3).mono ?_
   rintro _ w3m ⟨rfl,l0⟩
   repeat ((first|refine qA rfl ?_|apply qB|refine qC rfl ?_|apply qD|apply qE|apply qF|apply qG|apply qH);try simp (maxSteps:=1000000)(disch:=(first|omega|(simp only [qI,qJ,qK]<;>omega)|exact qL _)) only [go_sem,↓reduceIte,n0,reduceCtorEq,n1,n2,n3,n4,n5,i0,i1,i2,i3,i4,i5,i6,i7])
   refine (cQ_fn w3m).mono ?_
   rintro r4 w4 ⟨⟨vs,rfl,hF0⟩,hE4⟩
   have hF:FldsV AnyB w4 vs fs_Q:=hF0.weaken fun _ _ _=>trivial
   have fF:=SlR.flat hF
   try simp (maxSteps:=1000000)(disch:=(first|omega|(simp only [qI,qJ,qK]<;>omega)|exact qL _)) only [go_sem,↓reduceIte,n0,reduceCtorEq,n1,n2,n3,n4,n5,i0,i1,i2,i3,i4,i5,i6,i7]
   refine (version_fn w4 n 13 hn (by decide)).mono ?_
   rintro _ w4v ⟨rfl,rfl⟩
   have hE04:Ext w w4v:=(hE03.trans l0).trans hE4
   have hi4:=hE4.blk_some (l0.blk_some hi3 _root_.id) _root_.id
   have hb4:=hE4.blk_some (l0.blk_some hb3 _root_.id) _root_.id
   have hE5:Ext w4v (wr (w4v.alloc (.cells #[.slice none 0 0,.int .i64 0] 34)) w4v.heap.size 0 [vs,.int .i64 9]):=(Upd.alloc (Upd.refl _ _) _).wr _ _ (.inl (Nat.le_refl _))
   have hm5:blk (wr (w4v.alloc (.cells #[.slice none 0 0,.int .i64 0] 34)) w4v.heap.size 0 [vs,.int .i64 9]) w4v.heap.size=some (#[vs,.int .i64 9],34,(0,0)):=by simp (maxSteps:=1000000)(disch:=(first|omega|(simp only [qI,qJ,qK]<;>omega)|exact qL _)) only [go_sem,↓reduceIte,n0,reduceCtorEq,n1,n2,n3,n4,n5,i0,i1,i2,i3,i4,i5,i6,i7]
   try simp (maxSteps:=1000000)(disch:=(first|omega|(simp only [qI,qJ,qK]<;>omega)|exact qL _)) only [go_sem,↓reduceIte,n0,reduceCtorEq,n1,n2,n3,n4,n5,i0,i1,i2,i3,i4,i5,i6,i7,fF]
   generalize (wr (w4v.alloc (.cells #[.slice none 0 0,.int .i64 0] 34)) w4v.heap.size 0 [vs,.int .i64 9])=w5 at *
   have hi5:=hE5.blk_some hi4 _root_.id
   have hb5:=hE5.blk_some hb4 _root_.id
   have hv3:n % 14 < 14:=Nat.mod_lt _ (by omega)
   generalize n % 14=ver at *
   have hE05:Ext w w5:=hE04.trans hE5
   by_cases hidb:(32767:Int) < (id.length:Int)
   ·repeat ((first|refine qA rfl ?_|apply qB|refine qC rfl ?_|apply qD|apply qE|apply qF|apply qG|apply qH);try simp (maxSteps:=1000000)(disch:=(first|omega|(simp only [qI,qJ,qK]<;>omega)|exact qL _)) only [go_sem,↓reduceIte,n0,reduceCtorEq,n1,n2,n3,n4,n5,i0,i1,i2,i3,i4,i5,i6,i7,hi5,lenV_strV,hidb])
    all_goals exact hE05
   repeat ((first|refine qA rfl ?_|apply qB|refine qC rfl ?_|apply qD|apply qE|apply qF|apply qG|apply qH);try simp (maxSteps:=1000000)(disch:=(first|omega|(simp only [qI,qJ,qK]<;>omega)|exact qL _)) only [go_sem,↓reduceIte,n0,reduceCtorEq,n1,n2,n3,n4,n5,i0,i1,i2,i3,i4,i5,i6,i7,hi5,lenV_strV,hidb,hb5,hm5,cellsAt_five,cellsAt_two])
   have hokF:okF 2 fs_Q=true:=by decide
   have hokM:okM 2 fs_Q=true:=by decide
   have hokR:okR 2 ver (flexB 9 ver) fs_Q=true:=(by decide:∀ v:Fin 14,okR 2 ((v.val:Nat):Int) (flexB 9 ((v.val:Nat):Int)) fs_Q=true) ⟨ver,hv3⟩
   have hpl:(partS 3 fs_Q ver (flexB 9 ver) t).length≤2 ^ 40:=Nat.le_trans (partS_bound ver _ 2 fs_Q N t hokM hsz) (Nat.le_trans (Nat.mul_le_mul_left _ (Nat.succ_le_succ hN)) (by decide))
   refine (Write_fn (ok:=AnyB) (d:=2) fs_Q 9 ver t vs _ w5 (hF.keep (Ext.keeps hE5 _)) hokF ((ht.weaken fun _ _ _=>trivial).keep (Ext.keeps hE05 _)) hsm hpl).mono ?_
   rintro r6 w6 ⟨ho6,hE6⟩
   have hE06:=hE05.trans hE6
   have hi6:=hE6.blk_some hi5 _root_.id
   obtain ⟨a6,c6,rfl,_⟩:=ho6.shape
   repeat ((first|refine qA rfl ?_|apply qB|refine qC rfl ?_|apply qD|apply qE|apply qF|apply qG|apply qH);try simp (maxSteps:=1000000)(disch:=(first|omega|(simp only [qI,qJ,qK]<;>omega)|exact qL _)) only [go_sem,↓reduceIte,n0,reduceCtorEq,n1,n2,n3,n4,n5,i0,i1,i2,i3,i4,i5,i6,i7,hi6,cellsAt_two])
   have hrd:=(rdP_part ver (flexB 9 ver) 2 fs_Q N t hokR hsz).1 []
   rw [List.append_nil] at hrd
   refine (FrameQ_fn (d:=1) (ok:=AnyB) (ev:=ev) ver (by omega) t has id number _ w6 (Own.bytes (ok:=AnyB) ho6 fun _ _=>trivial) (hG.updS hE06 _root_.id _root_.id) hrd (partS_cn ver (flexB 9 ver) 2 fs_Q t hokR) hpl (by omega) (by omega)).mono ?_
   rintro _ w7 ⟨⟨v7,rfl,ho7⟩,hE7⟩
   have hE07:=hE06.trans hE7
   obtain ⟨a7,c7,rfl,_⟩:=ho7.shape
   have hi7:=hE7.blk_some hi6 _root_.id
   have hm7:=(hE6.trans hE7).blk_some hm5 _root_.id
   repeat (first|simp (maxSteps:=1000000)(disch:=(first|omega|(simp only [qI,qJ,qK]<;>omega)|exact qL _)) only [go_sem,↓reduceIte,n0,reduceCtorEq,n1,n2,n3,n4,n5,i0,i1,i2,i3,i4,i5,i6,i7]|refine qA rfl ?_|apply qB|refine qC rfl ?_|apply qD|apply qE|apply qF|apply qG|apply qH)
   have l1:=blk_lt hi7
   have l2:=blk_lt hm7
   refine W.drawR (.take 0 (.take 1 (.take 2 (.take 3 (.take 4 (.take 5 (.take 6 (.take 7 (.take 8 (.take 10 (.take 11 (.take 13 (.two 9 (.only 12 (.only 14 (.only 15 (.take 16 (.only 17 .done))))) 12 (.only 9 (.only 14 (.only 15 (.take 16 (.only 17 .done)))))))))))))))))) NoB mixed (by kernel_rfl) ?_
   have hEd:Ext w7 w7.drew:=(Upd.refl _ _).drew
   have lU:=hE07.trans hEd
   have hB6:=((Own.bytes (ok:=AnyB) ho6 fun _ _=>trivial).keep (Ext.keeps hE7 _)).keep (Ext.keeps hEd _)
   have hB7:=(Own.bytes (ok:=AnyB) ho7 fun _ _=>trivial).keep (Ext.keeps hEd _)
   try simp (maxSteps:=1000000)(disch:=(first|omega|(simp only [qI,qJ,qK]<;>omega)|exact qL _)) only [go_sem,↓reduceIte,n0,reduceCtorEq,n1,n2,n3,n4,n5,i0,i1,i2,i3,i4,i5,i6,i7,hi7,hm7,fF,cellsAt_two,cells_strV,flat_strV,convK_strV]
   generalize w7.drew=w7d at *
   have hfl:(frameS 3 ver number (!has) id (flexB 9 ver) (partS 3 fs_Q ver (flexB 9 ver) t)).length≤2 ^ 42:=by
    have:=frameB_len 3 ver number (!has) id (flexB 9 ver) (partS 3 fs_Q ver (flexB 9 ver) t) (by omega)
    simp only [frameS,List.length_append,fixedS_len]
    omega
   have hsame:decide ((frameS 3 ver number (!has) id (flexB 9 ver) (partS 3 fs_Q ver (flexB 9 ver) t))=(frameS 3 ver number (!has) id (flexB 9 ver) (partS 3 fs_Q ver (flexB 9 ver) t)))=true:=decide_eq_true rfl
   refine ⟨?_,?_⟩
   ·skip
    refine wp_octets (S:=9) (T:=24) (E:=5) (s:=id) (by kernel_rfl) (by kernel_rfl) (by kernel_rfl) (by first|rfl|simp (maxSteps:=1000000)(disch:=(first|omega|(simp only [qI,qJ,qK]<;>omega)|exact qL _)) only [go_sem,↓reduceIte,n0,reduceCtorEq,n1,n2,n3,n4,n5,i0,i1,i2,i3,i4,i5,i6,i7]) ?_
    intro a8 k8 w8 hB8 hE8
    refine ⟨hE8,?_⟩
    try simp (maxSteps:=1000000)(disch:=(first|omega|(simp only [qI,qJ,qK]<;>omega)|exact qL _)) only [go_sem,↓reduceIte,n0,reduceCtorEq,n1,n2,n3,n4,n5,i0,i1,i2,i3,i4,i5,i6,i7]
    refine (Flexible_fn vs 9 ver fF w8).mono ?_
    rintro _ w9 ⟨rfl,hE9⟩
    have iR:=hE8.trans hE9
    have hI:=(hB8.weaken (ok':=AnyB) fun _ _ _=>trivial).keep (Ext.keeps hE9 _)
    refine ⟨iR,?_⟩
    try simp (maxSteps:=1000000)(disch:=(first|omega|(simp only [qI,qJ,qK]<;>omega)|exact qL _)) only [go_sem,↓reduceIte,n0,reduceCtorEq,n1,n2,n3,n4,n5,i0,i1,i2,i3,i4,i5,i6,i7]
    refine (Frame_fn 3 ver number hnum has (flexB 9 ver) id (partS 3 fs_Q ver (flexB 9 ver) t) _ _ w9 hI (hB6.keep (Ext.keeps iR _)) (by omega) hpl).mono ?_
    rintro r10 w10 ⟨ho10,hE10⟩
    have g9:=iR.trans hE10
    refine ⟨g9,?_⟩
    obtain ⟨a10,c10,rfl,_⟩:=ho10.shape
    try simp (maxSteps:=1000000)(disch:=(first|omega|(simp only [qI,qJ,qK]<;>omega)|exact qL _)) only [go_sem,↓reduceIte,n0,reduceCtorEq,n1,n2,n3,n4,n5,i0,i1,i2,i3,i4,i5,i6,i7]
    refine (Same_fn (ok:=AnyB) (frameS 3 ver number (!has) id (flexB 9 ver) (partS 3 fs_Q ver (flexB 9 ver) t)) (frameS 3 ver number (!has) id (flexB 9 ver) (partS 3 fs_Q ver (flexB 9 ver) t)) _ _ w10 (hB7.keep (Ext.keeps g9 _)) (Own.bytes ho10 fun _ _=>trivial) (by omega)).mono ?_
    rintro _ w11 ⟨rfl,hE11⟩
    refine ⟨g9.trans hE11,?_⟩
    try simp (maxSteps:=1000000)(disch:=(first|omega|(simp only [qI,qJ,qK]<;>omega)|exact qL _)) only [go_sem,↓reduceIte,n0,reduceCtorEq,n1,n2,n3,n4,n5,i0,i1,i2,i3,i4,i5,i6,i7,hsame]
    try refine ⟨g9.trans hE11,?_⟩
    repeat ((first|refine qA rfl ?_|apply qB|refine qC rfl ?_|apply qD|apply qE|apply qF|apply qG|apply qH);try simp (maxSteps:=1000000)(disch:=(first|omega|(simp only [qI,qJ,qK]<;>omega)|exact qL _)) only [go_sem,↓reduceIte,n0,reduceCtorEq,n1,n2,n3,n4,n5,i0,i1,i2,i3,i4,i5,i6,i7,hsame])
    all_goals exact lU.trans (g9.trans hE11)
   ·skip
    refine (Flexible_fn vs 9 ver fF w7d).mono ?_
    rintro _ w8 ⟨rfl,hE8⟩
    refine ⟨hE8,?_⟩
    try simp (maxSteps:=1000000)(disch:=(first|omega|(simp only [qI,qJ,qK]<;>omega)|exact qL _)) only [go_sem,↓reduceIte,n0,reduceCtorEq,n1,n2,n3,n4,n5,i0,i1,i2,i3,i4,i5,i6,i7,convK_strV]
    refine wp_octets (S:=9) (T:=24) (E:=5) (s:=id) (by kernel_rfl) (by kernel_rfl) (by kernel_rfl) (by first|rfl|simp (maxSteps:=1000000)(disch:=(first|omega|(simp only [qI,qJ,qK]<;>omega)|exact qL _)) only [go_sem,↓reduceIte,n0,reduceCtorEq,n1,n2,n3,n4,n5,i0,i1,i2,i3,i4,i5,i6,i7]) ?_
    intro a8 k8 w9 hB8 hE9
    have iR:=hE8.trans hE9
    have hI:=hB8.weaken (ok':=AnyB) fun _ _ _=>trivial
    refine ⟨iR,?_⟩
    try simp (maxSteps:=1000000)(disch:=(first|omega|(simp only [qI,qJ,qK]<;>omega)|exact qL _)) only [go_sem,↓reduceIte,n0,reduceCtorEq,n1,n2,n3,n4,n5,i0,i1,i2,i3,i4,i5,i6,i7]
    refine (Frame_fn 3 ver number hnum has (flexB 9 ver) id (partS 3 fs_Q ver (flexB 9 ver) t) _ _ w9 hI (hB6.keep (Ext.keeps iR _)) (by omega) hpl).mono ?_
    rintro r10 w10 ⟨ho10,hE10⟩
    have g9:=iR.trans hE10
    refine ⟨g9,?_⟩
    obtain ⟨a10,c10,rfl,_⟩:=ho10.shape
    try simp (maxSteps:=1000000)(disch:=(first|omega|(simp only [qI,qJ,qK]<;>omega)|exact qL _)) only [go_sem,↓reduceIte,n0,reduceCtorEq,n1,n2,n3,n4,n5,i0,i1,i2,i3,i4,i5,i6,i7]
    refine (Same_fn (ok:=AnyB) (frameS 3 ver number (!has) id (flexB 9 ver) (partS 3 fs_Q ver (flexB 9 ver) t)) (frameS 3 ver number (!has) id (flexB 9 ver) (partS 3 fs_Q ver (flexB 9 ver) t)) _ _ w10 (hB7.keep (Ext.keeps g9 _)) (Own.bytes ho10 fun _ _=>trivial) (by omega)).mono ?_
    rintro _ w11 ⟨rfl,hE11⟩
    refine ⟨g9.trans hE11,?_⟩
    try simp (maxSteps:=1000000)(disch:=(first|omega|(simp only [qI,qJ,qK]<;>omega)|exact qL _)) only [go_sem,↓reduceIte,n0,reduceCtorEq,n1,n2,n3,n4,n5,i0,i1,i2,i3,i4,i5,i6,i7,hsame]
    try refine ⟨g9.trans hE11,?_⟩
    repeat ((first|refine qA rfl ?_|apply qB|refine qC rfl ?_|apply qD|apply qE|apply qF|apply qG|apply qH);try simp (maxSteps:=1000000)(disch:=(first|omega|(simp only [qI,qJ,qK]<;>omega)|exact qL _)) only [go_sem,↓reduceIte,n0,reduceCtorEq,n1,n2,n3,n4,n5,i0,i1,i2,i3,i4,i5,i6,i7,hsame])
    all_goals exact lU.trans (g9.trans hE11)

end Ms

