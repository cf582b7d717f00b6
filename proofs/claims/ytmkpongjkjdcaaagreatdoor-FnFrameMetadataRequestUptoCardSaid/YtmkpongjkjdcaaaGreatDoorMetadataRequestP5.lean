/- A part of the proof: see the last text. -/
import Derived.Test.YtmkpongjkjdcaaaGreatDoorC07
import Derived.Test.YtmkpongjkjdcaaaGreatDoorC10
import Derived.Test.YtmkpongjkjdcaaaGreatDoorMetadataRequestP0
set_option linter.unusedSimpArgs false
set_option linter.unusedVariables false
namespace Ms
open Go.World renaming size_alloc → qI
open Ms renaming size_wr → qJ,size_drew → qK,not_noB → qL
open W renaming seqR → qA,seq → qB,regR → qC,condK → qD,block → qE,skip → qF,ret → qG,exit → qH
open Nat renaming reduceEqDiff → n0,reduceAdd → n1,reduceMul → n2,reduceSub → n3,reduceLT → n4,reduceLeDiff → n5
open Int renaming reduceEq → i0,reduceLT → i1,reduceLE → i2,reduceNeg → i3,reduceAdd → i4,reduceSub → i5,reduceMul → i6,reduceToNat → i7
set_option maxRecDepth 8000
open Go Go.Proofs Go.Shelf
attribute [local congr] W_congr WPsq_congr WPp_congr optK_congr addrK_congr intK_congr boolK_congr sliceK_congr tupleK_congr funcK_congr Fn_congr rawK_congr takeK_congr stepK_congr convK_congr aggK_congr

set_option maxHeartbeats 4000000 in
theorem appQ_2 {d B:Nat} {okM:Blocks} {ver:Int} (hlo:4≤ver) (hhi:ver≤7) (t:Tree) (cells:List Value) (v:Value) (s:List UInt8) (w:World) {vb:Nat} (ho:OwnBy 5 B w v s) (hB:B≤w.heap.size) (hvb:blk w vb=some ((.int .i16 ver :: cells).toArray,68,(0,0)))
  (hR:RepS true (d+2) fs_Q okM w t cells) (hfit:FitW ver (d+2) fs_Q t) (hd:∀ b,b < w.heap.size→okM b→¬ ownB v b) (hdv:¬ ownB v vb) (hlen:s.length+(partS (d+2) fs_Q ver false t).length≤2 ^ 41) :
  Fn Tryz.prog 90 #[.pointer (some ⟨vb,0,none⟩),v] w fun r w'=>AppR 5 B w v s (partS (d+2) fs_Q ver false t) r w':=by
 obtain ⟨⟨g_0,g_1,g_2,g_3,-⟩,hfu⟩:=hfit
 replace g_0:hasS fQ_0 ver=true→FitWF (FitW ver (d+1)) ver fQ_0 (t.at 0):=g_0
 have hh_0:hasS fQ_0 ver=true:=hasS_t (by show (0:Int)≤ver;omega) (by show (-1:Int) < 0∨ver≤(-1:Int);omega)
 replace g_0:=g_0 hh_0
 replace g_1:hasS fQ_1 ver=true→FitWF (FitW ver (d+1)) ver fQ_1 (t.at 1):=g_1
 have hh_1:hasS fQ_1 ver=true:=hasS_t (by show (4:Int)≤ver;omega) (by show (-1:Int) < 0∨ver≤(-1:Int);omega)
 replace g_1:=g_1 hh_1
 replace g_2:hasS fQ_2 ver=true→FitWF (FitW ver (d+1)) ver fQ_2 (t.at 2):=g_2
 have hh_2:hasS fQ_2 ver=false:=hasS_f (by show ver < 8∨(0≤(10:Int)∧(10:Int) < ver);omega)
 clear g_2
 replace g_3:hasS fQ_3 ver=true→FitWF (FitW ver (d+1)) ver fQ_3 (t.at 3):=g_3
 have hh_3:hasS fQ_3 ver=false:=hasS_f (by show ver < 8∨(0≤(-1:Int)∧(-1:Int) < ver);omega)
 clear g_3
 obtain ⟨cs,q,hcs,hL,hT⟩:=hR.inv
 obtain ⟨c_0,e_0,rfl,h_0,c_1,e_1,rfl,h_1,c_2,e_2,rfl,h_2,c_3,e_3,rfl,h_3,rfl⟩:=hL
 replace h_0:RepF (RepS true (d+1)) (szS true (d+1)) fQ_0 okM w (t.at 0) c_0:=h_0
 replace h_1:RepF (RepS true (d+1)) (szS true (d+1)) fQ_1 okM w (t.at 1) c_1:=h_1
 replace h_2:RepF (RepS true (d+1)) (szS true (d+1)) fQ_2 okM w (t.at 2) c_2:=h_2
 replace h_3:RepF (RepS true (d+1)) (szS true (d+1)) fQ_3 okM w (t.at 3) c_3:=h_3
 obtain ⟨p_0,L_0,rfl,hLL_0,hs_0,hnn_0⟩:=RepF_listN g_0 rfl (by decide) h_0
 obtain ⟨ab_0,ac_0,rfl,_⟩:=SlR.shape hs_0
 have hni_0:=hnn_0 _ _ _ rfl
 have hgl_0:=g_0.listL rfl hLL_0
 have hll_0:=hgl_0.1
 obtain rfl:=(RepF_num (by decide)).1 h_1
 obtain rfl:=(RepF_num (by decide)).1 h_2
 obtain rfl:=(RepF_num (by decide)).1 h_3
 obtain ⟨qm,rfl⟩:=hT.shape
 have hv:blk w vb=some (#[.int .i16 ver,.slice ab_0 L_0.length ac_0,.bool (decide ((t.at 1).n % 2=1)),.bool (decide ((t.at 2).n % 2=1)),.bool (decide ((t.at 3).n % 2=1)),.map qm],68,(0,0)):=by rw [hvb,hcs];rfl
 clear hvb hcs
 obtain ⟨XL_0,hXL_0⟩:∃ X,X=countedS false (nullS fQ_0 ver (t.at 0)) L_0.length 4:=⟨_,rfl⟩
 obtain ⟨XE_0,hXE_0⟩:∃ X,X=L_0.flatMap (fun x=>partS (d+1) fs_X0 ver false x):=⟨_,rfl⟩
 obtain ⟨X_1,hXX_1⟩:∃ X,X=[if decide ((t.at 1).n % 2=1)=true then (1:UInt8) else 0]:=⟨_,rfl⟩
 have hP:partS (d+2) fs_Q ver false t=(XL_0++XE_0)++(X_1++[]):=partS_no (plainL_has (by decide) hh_0 ((fieldS_listN (g:=(fun x=>partS (d+1) fs_X0 ver false x)) g_0 rfl hLL_0 (fun x _=>valueS_part)).trans (by rw [hXL_0,hXE_0])) (plainL_has (by decide) hh_1 ((fieldS_bool rfl).trans hXX_1.symm) (plainL_not hh_2 (plainL_not hh_3 rfl))))
 rw [hP] at hlen
 simp only [List.length_append,List.length_nil] at hlen
 have hdK:∀ {r:Value} {w':World} {add:List UInt8},AppR 5 B w v s add r w'→∀ b,b < w'.heap.size→OkS okM w.heap.size b→¬ ownB r b:=fun h b _ hk ho=>(h.frame b ho).elim (hd b hk.2 hk.1) (fun h=>by have:=hk.2;omega)
 have ownK:∀ {r:Value} {w':World} {add:List UInt8} {b:Nat},AppR 5 B w v s add r w'→b < w.heap.size→¬ ownB v b→¬ ownB r b:=fun h hb hn ho=>(h.frame _ ho).elim hn (fun h=>by omega)
 have ha0:AppR 5 B w v s [] v w:=AppR.refl ho
 obtain ⟨w0,hw0⟩:∃ w0,w0=w:=⟨_,rfl⟩
 have hB0:=hB
 have hv_0:=hv
 refine fn_of_W Tryz.func90 rfl Tryz.results90 Tryz.ntmps90 rfl ?_
 repeat ((first|refine qA rfl ?_|apply qB|refine qC rfl ?_|apply qD|apply qE|apply qF|apply qG|apply qH);try simp (disch:=(first|omega|(simp only [qI,qJ,qK]<;>omega)|exact qL _)) only [go_sem,↓reduceIte,n0,reduceCtorEq,n1,n2,n3,n4,n5,i0,i1,i2,i3,i4,i5,i6,i7,hv_0,hni_0])
 refine (AppendNullableArrayLen_fn _ _ _ ha0.own hB0 L_0.length hll_0 (nullS fQ_0 ver (t.at 0)) (by simp only [List.length_append,List.length_nil];omega)).mono ?_
 rintro r1 w1 hc1
 rw [← hXL_0] at hc1
 have ha1:=ha0.trans hc1
 have hB1:B≤w1.heap.size:=Nat.le_trans hB ha1.upd.size
 have hv_1:=ha1.upd.blk_some hv hdv
 repeat ((first|refine qA rfl ?_|apply qB|refine qC rfl ?_|apply qD|apply qE|apply qF|apply qG|apply qH);try simp (disch:=(first|omega|(simp only [qI,qJ,qK]<;>omega)|exact qL _)) only [go_sem,↓reduceIte,n0,reduceCtorEq,n1,n2,n3,n4,n5,i0,i1,i2,i3,i4,i5,i6,i7,hv_1,hni_0])
 have jE:=ha1
 refine W.exitJ 0 (fun ρ w'=>∃ r,ρ 1=r∧ρ 0 = .pointer (some ⟨vb,0,none⟩)∧ρ 5 = .int .i16 ver∧ρ 6 = .bool false∧AppR 5 B w v s (([]++XL_0)++XE_0) r w')
  (W.loop (fun ρ w'=>∃ (j:Nat) (r:Value),j≤L_0.length∧ρ 55 = .int .i64 j∧ρ 54 = .int .i64 L_0.length∧ρ 7 = .slice ab_0 L_0.length ac_0∧ρ 1=r∧ρ 0 = .pointer (some ⟨vb,0,none⟩)∧ρ 5 = .int .i16 ver∧ρ 6 = .bool false∧AppR 5 B w v s (([]++XL_0)++(L_0.take j).flatMap (fun x=>partS (d+1) fs_X0 ver false x)) r w')
   (fun ρ _=>L_0.length - (RowKit.intOf (ρ 55)).toNat) ?_ ?_) ?_
 ·refine ⟨0,_,Nat.zero_le _,?_,?_,?_,?_,?_,?_,?_,ha1.eqs (by rw [List.take_zero,List.flatMap_nil,List.append_nil])⟩<;>simp (disch:=(first|omega|(simp only [qI,qJ,qK]<;>omega)|exact qL _)) only [go_sem,↓reduceIte,n0,reduceCtorEq,n1,n2,n3,n4,n5,i0,i1,i2,i3,i4,i5,i6,i7]
  all_goals rfl
 ·rintro ρ w2 ⟨j1,r2,hj1,hI1,hN1,hS1,aY,aX,aZ,b6,ha2⟩
  have hB2:B≤w2.heap.size:=Nat.le_trans hB ha2.upd.size
  have hv_2:=ha2.upd.blk_some hv hdv
  by_cases cZ:j1 < L_0.length
  ·obtain ⟨_,b1,o1,x1,ce1,hb1,hok1,hx1,fE,jL,jK,hq1,cR⟩:=SlR.get (size:=18) (by decide) hs_0 cZ
   subst hb1
   have dP:L_0.take (j1+1)=L_0.take j1++[L_0[j1]]:=List.take_succ_eq_append_getElem cZ
   have bI:=take_flatMap_len L_0 (fun x=>partS (d+1) fs_X0 ver false x) (j1+1)
   rw [← hXE_0,dP,List.flatMap_append,List.flatMap_cons,List.flatMap_nil,List.append_nil] at bI
   have fM:=hgl_0.2 _ (List.getElem_mem cZ)
   generalize L_0[j1] = y1 at *
   have bM:=hd b1 fE hok1
   obtain ⟨T1,dN⟩:∃ T,T=(L_0.take j1).flatMap (fun x=>partS (d+1) fs_X0 ver false x):=⟨_,rfl⟩
   rw [← dN] at ha2 bI
   have eF:=ha2.upd.blk_some hx1 bM
   replace cR:RepS true (d+1) fs_X0 okM w y1 ce1:=Rep1_part.1 cR
   have fJ:FitW ver (d+1) fs_X0 y1:=fM.2 rfl
   obtain ⟨⟨ge1_0,ge1_1,-⟩,dL⟩:=fJ
   replace ge1_0:hasS fX0_0 ver=true→FitWF (FitW ver d) ver fX0_0 (y1.at 0):=ge1_0
   have eM:hasS fX0_0 ver=false:=hasS_f (by show ver < 10∨(0≤(-1:Int)∧(-1:Int) < ver);omega)
   clear ge1_0
   replace ge1_1:hasS fX0_1 ver=true→FitWF (FitW ver d) ver fX0_1 (y1.at 1):=ge1_1
   have dS:hasS fX0_1 ver=true:=hasS_t (by show (0:Int)≤ver;omega) (by show (-1:Int) < 0∨ver≤(-1:Int);omega)
   replace ge1_1:=ge1_1 dS
   obtain ⟨cse1,qe1,fG,eY,e7⟩:=cR.inv
   obtain ⟨ce1_0,ee1_0,rfl,cW,ce1_1,ee1_1,rfl,cX,rfl⟩:=eY
   replace cW:RepF (RepS true d) (szS true d) fX0_0 okM w (y1.at 0) ce1_0:=cW
   replace cX:RepF (RepS true d) (szS true d) fX0_1 okM w (y1.at 1) ce1_1:=cX
   obtain rfl:=(RepF_uuid rfl).1 cW
   have fY:((uuidS (y1.at 0).s).map byteV).length=16:=by rw [List.length_map,uuidS_len]
   have dQ:=flat_bytes (uuidS (y1.at 0).s)
   generalize iK:(uuidS (y1.at 0).s).map byteV=Ze1_0 at *
   obtain ⟨ze1_0_0,ze1_0_1,ze1_0_2,ze1_0_3,ze1_0_4,ze1_0_5,ze1_0_6,ze1_0_7,ze1_0_8,ze1_0_9,ze1_0_10,ze1_0_11,ze1_0_12,ze1_0_13,ze1_0_14,ze1_0_15,rfl⟩:=list16 fY
   simp only [List.all_cons,List.all_nil,Bool.and_true,Bool.and_eq_true] at dQ
   obtain ⟨fze1_0_0,fze1_0_1,fze1_0_2,fze1_0_3,fze1_0_4,fze1_0_5,fze1_0_6,fze1_0_7,fze1_0_8,fze1_0_9,fze1_0_10,fze1_0_11,fze1_0_12,fze1_0_13,fze1_0_14,fze1_0_15⟩:=dQ
   obtain ⟨pe1_1,rfl,fT⟩:=(RepF_ptr rfl (by decide)).1 cX
   obtain ⟨qme1,rfl⟩:=e7.shape
   subst fG
   have bO:x1.1[o1+j1 * 18]? = some (ze1_0_0):=hq1 0 (by decide)
   have bP:x1.1[o1+(j1 * 18+1)]? = some (ze1_0_1):=hq1 1 (by decide)
   have bZ:x1.1[o1+(j1 * 18+2)]? = some (ze1_0_2):=hq1 2 (by decide)
   have cC:x1.1[o1+(j1 * 18+3)]? = some (ze1_0_3):=hq1 3 (by decide)
   have cD:x1.1[o1+(j1 * 18+4)]? = some (ze1_0_4):=hq1 4 (by decide)
   have cE:x1.1[o1+(j1 * 18+5)]? = some (ze1_0_5):=hq1 5 (by decide)
   have cH:x1.1[o1+(j1 * 18+6)]? = some (ze1_0_6):=hq1 6 (by decide)
   have cI:x1.1[o1+(j1 * 18+7)]? = some (ze1_0_7):=hq1 7 (by decide)
   have cJ:x1.1[o1+(j1 * 18+8)]? = some (ze1_0_8):=hq1 8 (by decide)
   have cM:x1.1[o1+(j1 * 18+9)]? = some (ze1_0_9):=hq1 9 (by decide)
   have bQ:x1.1[o1+(j1 * 18+10)]? = some (ze1_0_10):=hq1 10 (by decide)
   have bR:x1.1[o1+(j1 * 18+11)]? = some (ze1_0_11):=hq1 11 (by decide)
   have bU:x1.1[o1+(j1 * 18+12)]? = some (ze1_0_12):=hq1 12 (by decide)
   have bV:x1.1[o1+(j1 * 18+13)]? = some (ze1_0_13):=hq1 13 (by decide)
   have bW:x1.1[o1+(j1 * 18+14)]? = some (ze1_0_14):=hq1 14 (by decide)
   have bX:x1.1[o1+(j1 * 18+15)]? = some (ze1_0_15):=hq1 15 (by decide)
   have bY:x1.1[o1+(j1 * 18+16)]? = some (pe1_1):=hq1 16 (by decide)
   have bA:x1.1[o1+(j1 * 18+17)]? = some (.map qme1):=hq1 17 (by decide)
   have cO:cellsAt x1.1 (o1+j1 * 18) 16=some (.agg #[ze1_0_0,ze1_0_1,ze1_0_2,ze1_0_3,ze1_0_4,ze1_0_5,ze1_0_6,ze1_0_7,ze1_0_8,ze1_0_9,ze1_0_10,ze1_0_11,ze1_0_12,ze1_0_13,ze1_0_14,ze1_0_15]):=by
    refine cellsAt_of (l:=[ze1_0_0,ze1_0_1,ze1_0_2,ze1_0_3,ze1_0_4,ze1_0_5,ze1_0_6,ze1_0_7,ze1_0_8,ze1_0_9,ze1_0_10,ze1_0_11,ze1_0_12,ze1_0_13,ze1_0_14,ze1_0_15]) (fun j hj => ?_) rfl (by omega)
    rw [show o1+j1 * 18+j=o1+(j1 * 18+(0+j)) by omega]
    exact (hq1 (0+j) (by omega)).trans (get_mid (pre:=[]) (xs:=[ze1_0_0,ze1_0_1,ze1_0_2,ze1_0_3,ze1_0_4,ze1_0_5,ze1_0_6,ze1_0_7,ze1_0_8,ze1_0_9,ze1_0_10,ze1_0_11,ze1_0_12,ze1_0_13,ze1_0_14,ze1_0_15]) (post:=[pe1_1,.map qme1]) hj)
   obtain ⟨Xe1_1,dO⟩:∃ X,X=fixedS (y1.at 1).s.length 2++(y1.at 1).s:=⟨_,rfl⟩
   have eT:(y1.at 1).null=false:=(ge1_1.isnull (by decide)).trans (nullS_early (by show ver < (10:Int);omega))
   have dM:partS (d+1) fs_X0 ver false y1=Xe1_1++[]:=partS_no (plainL_not eM (plainL_has (by decide) dS ((fieldS_ptr_f ge1_1 rfl (by decide)).trans (by rw [eT,if_neg (by decide)];exact dO.symm)) rfl))
   rw [dM] at bI
   simp only [List.length_append,List.length_nil] at bI
   repeat ((first|refine qA rfl ?_|apply qB|refine qC rfl ?_|apply qD|apply qE|apply qF|apply qG|apply qH);try simp (disch:=(first|omega|(simp only [qI,qJ,qK]<;>omega)|exact qL _)) only [go_sem,↓reduceIte,n0,reduceCtorEq,n1,n2,n3,n4,n5,i0,i1,i2,i3,i4,i5,i6,i7,hv_2,eF,hni_0,bO,bP,bZ,cC,cD,cE,cH,cI,cJ,cM,bQ,bR,bU,bV,bW,bX,bY,bA,fze1_0_0,fze1_0_1,fze1_0_2,fze1_0_3,fze1_0_4,fze1_0_5,fze1_0_6,fze1_0_7,fze1_0_8,fze1_0_9,fze1_0_10,fze1_0_11,fze1_0_12,fze1_0_13,fze1_0_14,fze1_0_15,cO,aY,aX,aZ,b6,hI1,hN1,hS1])
   obtain ⟨bte1_1,ote1_1,xte1_1,gQ,gN,eS,gO⟩:∃ b o x,pe1_1 = .pointer (some ⟨b,o,none⟩)∧okM b∧blk w b=some x∧x.1[o]? = some (strV (y1.at 1).s):=by
    have h:=fT
    unfold PtrText at h
    rw [if_neg (by rw [eT];decide)] at h
    exact h
   have gP:=ha2.upd.blk_some eS (hd _ (blk_lt eS) gN)
   repeat (first|simp (disch:=(first|omega|(simp only [qI,qJ,qK]<;>omega)|exact qL _)) only [go_sem,↓reduceIte,n0,reduceCtorEq,n1,n2,n3,n4,n5,i0,i1,i2,i3,i4,i5,i6,i7,hv_2,eF,hni_0,bO,bP,bZ,cC,cD,cE,cH,cI,cJ,cM,bQ,bR,bU,bV,bW,bX,bY,bA,fze1_0_0,fze1_0_1,fze1_0_2,fze1_0_3,fze1_0_4,fze1_0_5,fze1_0_6,fze1_0_7,fze1_0_8,fze1_0_9,fze1_0_10,fze1_0_11,fze1_0_12,fze1_0_13,fze1_0_14,fze1_0_15,cO,aY,aX,aZ,b6,hI1,hN1,hS1,gQ,gP,gO]|refine qA rfl ?_|apply qB|refine qC rfl ?_|apply qD|apply qE|apply qF|apply qG|apply qH)
   refine (AppendString_fn _ _ _ ha2.own hB2 (y1.at 1).s (ge1_1.text (.inl rfl)) (by simp only [List.length_append,List.length_nil];omega)).mono ?_
   rintro r3 w3 hc3
   rw [← dO] at hc3
   have ha3:=ha2.trans hc3
   have hB3:B≤w3.heap.size:=Nat.le_trans hB ha3.upd.size
   have hv_3:=ha3.upd.blk_some hv hdv
   have hZ:=ha3.upd.blk_some hx1 bM
   repeat ((first|refine qA rfl ?_|apply qB|refine qC rfl ?_|apply qD|apply qE|apply qF|apply qG|apply qH);try simp (disch:=(first|omega|(simp only [qI,qJ,qK]<;>omega)|exact qL _)) only [go_sem,↓reduceIte,n0,reduceCtorEq,n1,n2,n3,n4,n5,i0,i1,i2,i3,i4,i5,i6,i7,aY,aX,aZ,b6,hI1,hN1,hS1])
   refine ⟨⟨j1+1,_,by omega,rfl,rfl,ha3.eqs ?_⟩,?_⟩
   ·rw [dP,List.flatMap_append,List.flatMap_cons,List.flatMap_nil,List.append_nil,← dN,dM];simp only [List.append_assoc,List.append_nil,List.nil_append]
   ·simp only [RowKit.intOf];omega
  ·have fO:j1=L_0.length:=by omega
   subst fO
   rw [List.take_length,← hXE_0] at ha2
   repeat ((first|refine qA rfl ?_|apply qB|refine qC rfl ?_|apply qD|apply qE|apply qF|apply qG|apply qH);try simp (disch:=(first|omega|(simp only [qI,qJ,qK]<;>omega)|exact qL _)) only [go_sem,↓reduceIte,n0,reduceCtorEq,n1,n2,n3,n4,n5,i0,i1,i2,i3,i4,i5,i6,i7,hI1,hN1])
   exact ⟨_,aY,aX,aZ,b6,ha2⟩
 ·rintro ρ w4 ⟨r4,bB,bC,bD,bE,ha4⟩
  have hB4:B≤w4.heap.size:=Nat.le_trans hB ha4.upd.size
  have hv_4:=ha4.upd.blk_some hv hdv
  repeat ((first|refine qA rfl ?_|apply qB|refine qC rfl ?_|apply qD|apply qE|apply qF|apply qG|apply qH);try simp (disch:=(first|omega|(simp only [qI,qJ,qK]<;>omega)|exact qL _)) only [go_sem,↓reduceIte,n0,reduceCtorEq,n1,n2,n3,n4,n5,i0,i1,i2,i3,i4,i5,i6,i7,hv_4,hni_0,bB,bC,bD,bE])
  refine (AppendBool_fn _ _ _ ha4.own hB4 _ (by simp only [List.length_append,List.length_nil];omega)).mono ?_
  rintro r5 w5 hc5
  rw [← hXX_1] at hc5
  have ha5:=ha4.trans hc5
  have hB5:B≤w5.heap.size:=Nat.le_trans hB ha5.upd.size
  have hv_5:=ha5.upd.blk_some hv hdv
  repeat ((first|refine qA rfl ?_|apply qB|refine qC rfl ?_|apply qD|apply qE|apply qF|apply qG|apply qH);try simp (disch:=(first|omega|(simp only [qI,qJ,qK]<;>omega)|exact qL _)) only [go_sem,↓reduceIte,n0,reduceCtorEq,n1,n2,n3,n4,n5,i0,i1,i2,i3,i4,i5,i6,i7,hv_5,hni_0,bB,bC,bD,bE])
  refine ha5.eqs ?_
  rw [hP];simp only [List.append_assoc,List.append_nil,List.nil_append]

set_option maxHeartbeats 4000000 in
theorem appQ_3 {d B:Nat} {okM:Blocks} {ver:Int} (hlo:8≤ver) (hhi:ver≤8) (t:Tree) (cells:List Value) (v:Value) (s:List UInt8) (w:World) {vb:Nat} (ho:OwnBy 5 B w v s) (hB:B≤w.heap.size) (hvb:blk w vb=some ((.int .i16 ver :: cells).toArray,68,(0,0)))
  (hR:RepS true (d+2) fs_Q okM w t cells) (hfit:FitW ver (d+2) fs_Q t) (hd:∀ b,b < w.heap.size→okM b→¬ ownB v b) (hdv:¬ ownB v vb) (hlen:s.length+(partS (d+2) fs_Q ver false t).length≤2 ^ 41) :
  Fn Tryz.prog 90 #[.pointer (some ⟨vb,0,none⟩),v] w fun r w'=>AppR 5 B w v s (partS (d+2) fs_Q ver false t) r w':=by
 obtain ⟨⟨g_0,g_1,g_2,g_3,-⟩,hfu⟩:=hfit
 replace g_0:hasS fQ_0 ver=true→FitWF (FitW ver (d+1)) ver fQ_0 (t.at 0):=g_0
 have hh_0:hasS fQ_0 ver=true:=hasS_t (by show (0:Int)≤ver;omega) (by show (-1:Int) < 0∨ver≤(-1:Int);omega)
 replace g_0:=g_0 hh_0
 replace g_1:hasS fQ_1 ver=true→FitWF (FitW ver (d+1)) ver fQ_1 (t.at 1):=g_1
 have hh_1:hasS fQ_1 ver=true:=hasS_t (by show (4:Int)≤ver;omega) (by show (-1:Int) < 0∨ver≤(-1:Int);omega)
 replace g_1:=g_1 hh_1
 replace g_2:hasS fQ_2 ver=true→FitWF (FitW ver (d+1)) ver fQ_2 (t.at 2):=g_2
 have hh_2:hasS fQ_2 ver=true:=hasS_t (by show (8:Int)≤ver;omega) (by show (10:Int) < 0∨ver≤(10:Int);omega)
 replace g_2:=g_2 hh_2
 replace g_3:hasS fQ_3 ver=true→FitWF (FitW ver (d+1)) ver fQ_3 (t.at 3):=g_3
 have hh_3:hasS fQ_3 ver=true:=hasS_t (by show (8:Int)≤ver;omega) (by show (-1:Int) < 0∨ver≤(-1:Int);omega)
 replace g_3:=g_3 hh_3
 obtain ⟨cs,q,hcs,hL,hT⟩:=hR.inv
 obtain ⟨c_0,e_0,rfl,h_0,c_1,e_1,rfl,h_1,c_2,e_2,rfl,h_2,c_3,e_3,rfl,h_3,rfl⟩:=hL
 replace h_0:RepF (RepS true (d+1)) (szS true (d+1)) fQ_0 okM w (t.at 0) c_0:=h_0
 replace h_1:RepF (RepS true (d+1)) (szS true (d+1)) fQ_1 okM w (t.at 1) c_1:=h_1
 replace h_2:RepF (RepS true (d+1)) (szS true (d+1)) fQ_2 okM w (t.at 2) c_2:=h_2
 replace h_3:RepF (RepS true (d+1)) (szS true (d+1)) fQ_3 okM w (t.at 3) c_3:=h_3
 obtain ⟨p_0,L_0,rfl,hLL_0,hs_0,hnn_0⟩:=RepF_listN g_0 rfl (by decide) h_0
 obtain ⟨ab_0,ac_0,rfl,_⟩:=SlR.shape hs_0
 have hni_0:=hnn_0 _ _ _ rfl
 have hgl_0:=g_0.listL rfl hLL_0
 have hll_0:=hgl_0.1
 obtain rfl:=(RepF_num (by decide)).1 h_1
 obtain rfl:=(RepF_num (by decide)).1 h_2
 obtain rfl:=(RepF_num (by decide)).1 h_3
 obtain ⟨qm,rfl⟩:=hT.shape
 have hv:blk w vb=some (#[.int .i16 ver,.slice ab_0 L_0.length ac_0,.bool (decide ((t.at 1).n % 2=1)),.bool (decide ((t.at 2).n % 2=1)),.bool (decide ((t.at 3).n % 2=1)),.map qm],68,(0,0)):=by rw [hvb,hcs];rfl
 clear hvb hcs
 obtain ⟨XL_0,hXL_0⟩:∃ X,X=countedS false (nullS fQ_0 ver (t.at 0)) L_0.length 4:=⟨_,rfl⟩
 obtain ⟨XE_0,hXE_0⟩:∃ X,X=L_0.flatMap (fun x=>partS (d+1) fs_X0 ver false x):=⟨_,rfl⟩
 obtain ⟨X_1,hXX_1⟩:∃ X,X=[if decide ((t.at 1).n % 2=1)=true then (1:UInt8) else 0]:=⟨_,rfl⟩
 obtain ⟨X_2,hXX_2⟩:∃ X,X=[if decide ((t.at 2).n % 2=1)=true then (1:UInt8) else 0]:=⟨_,rfl⟩
 obtain ⟨X_3,hXX_3⟩:∃ X,X=[if decide ((t.at 3).n % 2=1)=true then (1:UInt8) else 0]:=⟨_,rfl⟩
 have hP:partS (d+2) fs_Q ver false t=(XL_0++XE_0)++(X_1++(X_2++(X_3++[]))):=partS_no (plainL_has (by decide) hh_0 ((fieldS_listN (g:=(fun x=>partS (d+1) fs_X0 ver false x)) g_0 rfl hLL_0 (fun x _=>valueS_part)).trans (by rw [hXL_0,hXE_0])) (plainL_has (by decide) hh_1 ((fieldS_bool rfl).trans hXX_1.symm) (plainL_has (by decide) hh_2 ((fieldS_bool rfl).trans hXX_2.symm) (plainL_has (by decide) hh_3 ((fieldS_bool rfl).trans hXX_3.symm) rfl))))
 rw [hP] at hlen
 simp only [List.length_append,List.length_nil] at hlen
 have hdK:∀ {r:Value} {w':World} {add:List UInt8},AppR 5 B w v s add r w'→∀ b,b < w'.heap.size→OkS okM w.heap.size b→¬ ownB r b:=fun h b _ hk ho=>(h.frame b ho).elim (hd b hk.2 hk.1) (fun h=>by have:=hk.2;omega)
 have ownK:∀ {r:Value} {w':World} {add:List UInt8} {b:Nat},AppR 5 B w v s add r w'→b < w.heap.size→¬ ownB v b→¬ ownB r b:=fun h hb hn ho=>(h.frame _ ho).elim hn (fun h=>by omega)
 have ha0:AppR 5 B w v s [] v w:=AppR.refl ho
 obtain ⟨w0,hw0⟩:∃ w0,w0=w:=⟨_,rfl⟩
 have hB0:=hB
 have hv_0:=hv
 refine fn_of_W Tryz.func90 rfl Tryz.results90 Tryz.ntmps90 rfl ?_
 repeat ((first|refine qA rfl ?_|apply qB|refine qC rfl ?_|apply qD|apply qE|apply qF|apply qG|apply qH);try simp (disch:=(first|omega|(simp only [qI,qJ,qK]<;>omega)|exact qL _)) only [go_sem,↓reduceIte,n0,reduceCtorEq,n1,n2,n3,n4,n5,i0,i1,i2,i3,i4,i5,i6,i7,hv_0,hni_0])
 refine (AppendNullableArrayLen_fn _ _ _ ha0.own hB0 L_0.length hll_0 (nullS fQ_0 ver (t.at 0)) (by simp only [List.length_append,List.length_nil];omega)).mono ?_
 rintro r1 w1 hc1
 rw [← hXL_0] at hc1
 have ha1:=ha0.trans hc1
 have hB1:B≤w1.heap.size:=Nat.le_trans hB ha1.upd.size
 have hv_1:=ha1.upd.blk_some hv hdv
 repeat ((first|refine qA rfl ?_|apply qB|refine qC rfl ?_|apply qD|apply qE|apply qF|apply qG|apply qH);try simp (disch:=(first|omega|(simp only [qI,qJ,qK]<;>omega)|exact qL _)) only [go_sem,↓reduceIte,n0,reduceCtorEq,n1,n2,n3,n4,n5,i0,i1,i2,i3,i4,i5,i6,i7,hv_1,hni_0])
 have jE:=ha1
 refine W.exitJ 0 (fun ρ w'=>∃ r,ρ 1=r∧ρ 0 = .pointer (some ⟨vb,0,none⟩)∧ρ 5 = .int .i16 ver∧ρ 6 = .bool false∧AppR 5 B w v s (([]++XL_0)++XE_0) r w')
  (W.loop (fun ρ w'=>∃ (j:Nat) (r:Value),j≤L_0.length∧ρ 55 = .int .i64 j∧ρ 54 = .int .i64 L_0.length∧ρ 7 = .slice ab_0 L_0.length ac_0∧ρ 1=r∧ρ 0 = .pointer (some ⟨vb,0,none⟩)∧ρ 5 = .int .i16 ver∧ρ 6 = .bool false∧AppR 5 B w v s (([]++XL_0)++(L_0.take j).flatMap (fun x=>partS (d+1) fs_X0 ver false x)) r w')
   (fun ρ _=>L_0.length - (RowKit.intOf (ρ 55)).toNat) ?_ ?_) ?_
 ·refine ⟨0,_,Nat.zero_le _,?_,?_,?_,?_,?_,?_,?_,ha1.eqs (by rw [List.take_zero,List.flatMap_nil,List.append_nil])⟩<;>simp (disch:=(first|omega|(simp only [qI,qJ,qK]<;>omega)|exact qL _)) only [go_sem,↓reduceIte,n0,reduceCtorEq,n1,n2,n3,n4,n5,i0,i1,i2,i3,i4,i5,i6,i7]
  all_goals rfl
 ·rintro ρ w2 ⟨j1,r2,hj1,hI1,hN1,hS1,aY,aX,aZ,b6,ha2⟩
  have hB2:B≤w2.heap.size:=Nat.le_trans hB ha2.upd.size
  have hv_2:=ha2.upd.blk_some hv hdv
  by_cases cZ:j1 < L_0.length
  ·obtain ⟨_,b1,o1,x1,ce1,hb1,hok1,hx1,fE,jL,jK,hq1,cR⟩:=SlR.get (size:=18) (by decide) hs_0 cZ
   subst hb1
   have dP:L_0.take (j1+1)=L_0.take j1++[L_0[j1]]:=List.take_succ_eq_append_getElem cZ
   have bI:=take_flatMap_len L_0 (fun x=>partS (d+1) fs_X0 ver false x) (j1+1)
   rw [← hXE_0,dP,List.flatMap_append,List.flatMap_cons,List.flatMap_nil,List.append_nil] at bI
   have fM:=hgl_0.2 _ (List.getElem_mem cZ)
   generalize L_0[j1] = y1 at *
   have bM:=hd b1 fE hok1
   obtain ⟨T1,dN⟩:∃ T,T=(L_0.take j1).flatMap (fun x=>partS (d+1) fs_X0 ver false x):=⟨_,rfl⟩
   rw [← dN] at ha2 bI
   have eF:=ha2.upd.blk_some hx1 bM
   replace cR:RepS true (d+1) fs_X0 okM w y1 ce1:=Rep1_part.1 cR
   have fJ:FitW ver (d+1) fs_X0 y1:=fM.2 rfl
   obtain ⟨⟨ge1_0,ge1_1,-⟩,dL⟩:=fJ
   replace ge1_0:hasS fX0_0 ver=true→FitWF (FitW ver d) ver fX0_0 (y1.at 0):=ge1_0
   have eM:hasS fX0_0 ver=false:=hasS_f (by show ver < 10∨(0≤(-1:Int)∧(-1:Int) < ver);omega)
   clear ge1_0
   replace ge1_1:hasS fX0_1 ver=true→FitWF (FitW ver d) ver fX0_1 (y1.at 1):=ge1_1
   have dS:hasS fX0_1 ver=true:=hasS_t (by show (0:Int)≤ver;omega) (by show (-1:Int) < 0∨ver≤(-1:Int);omega)
   replace ge1_1:=ge1_1 dS
   obtain ⟨cse1,qe1,fG,eY,e7⟩:=cR.inv
   obtain ⟨ce1_0,ee1_0,rfl,cW,ce1_1,ee1_1,rfl,cX,rfl⟩:=eY
   replace cW:RepF (RepS true d) (szS true d) fX0_0 okM w (y1.at 0) ce1_0:=cW
   replace cX:RepF (RepS true d) (szS true d) fX0_1 okM w (y1.at 1) ce1_1:=cX
   obtain rfl:=(RepF_uuid rfl).1 cW
   have fY:((uuidS (y1.at 0).s).map byteV).length=16:=by rw [List.length_map,uuidS_len]
   have dQ:=flat_bytes (uuidS (y1.at 0).s)
   generalize iK:(uuidS (y1.at 0).s).map byteV=Ze1_0 at *
   obtain ⟨ze1_0_0,ze1_0_1,ze1_0_2,ze1_0_3,ze1_0_4,ze1_0_5,ze1_0_6,ze1_0_7,ze1_0_8,ze1_0_9,ze1_0_10,ze1_0_11,ze1_0_12,ze1_0_13,ze1_0_14,ze1_0_15,rfl⟩:=list16 fY
   simp only [List.all_cons,List.all_nil,Bool.and_true,Bool.and_eq_true] at dQ
   obtain ⟨fze1_0_0,fze1_0_1,fze1_0_2,fze1_0_3,fze1_0_4,fze1_0_5,fze1_0_6,fze1_0_7,fze1_0_8,fze1_0_9,fze1_0_10,fze1_0_11,fze1_0_12,fze1_0_13,fze1_0_14,fze1_0_15⟩:=dQ
   obtain ⟨pe1_1,rfl,fT⟩:=(RepF_ptr rfl (by decide)).1 cX
   obtain ⟨qme1,rfl⟩:=e7.shape
   subst fG
   have bO:x1.1[o1+j1 * 18]? = some (ze1_0_0):=hq1 0 (by decide)
   have bP:x1.1[o1+(j1 * 18+1)]? = some (ze1_0_1):=hq1 1 (by decide)
   have bZ:x1.1[o1+(j1 * 18+2)]? = some (ze1_0_2):=hq1 2 (by decide)
   have cC:x1.1[o1+(j1 * 18+3)]? = some (ze1_0_3):=hq1 3 (by decide)
   have cD:x1.1[o1+(j1 * 18+4)]? = some (ze1_0_4):=hq1 4 (by decide)
   have cE:x1.1[o1+(j1 * 18+5)]? = some (ze1_0_5):=hq1 5 (by decide)
   have cH:x1.1[o1+(j1 * 18+6)]? = some (ze1_0_6):=hq1 6 (by decide)
   have cI:x1.1[o1+(j1 * 18+7)]? = some (ze1_0_7):=hq1 7 (by decide)
   have cJ:x1.1[o1+(j1 * 18+8)]? = some (ze1_0_8):=hq1 8 (by decide)
   have cM:x1.1[o1+(j1 * 18+9)]? = some (ze1_0_9):=hq1 9 (by decide)
   have bQ:x1.1[o1+(j1 * 18+10)]? = some (ze1_0_10):=hq1 10 (by decide)
   have bR:x1.1[o1+(j1 * 18+11)]? = some (ze1_0_11):=hq1 11 (by decide)
   have bU:x1.1[o1+(j1 * 18+12)]? = some (ze1_0_12):=hq1 12 (by decide)
   have bV:x1.1[o1+(j1 * 18+13)]? = some (ze1_0_13):=hq1 13 (by decide)
   have bW:x1.1[o1+(j1 * 18+14)]? = some (ze1_0_14):=hq1 14 (by decide)
   have bX:x1.1[o1+(j1 * 18+15)]? = some (ze1_0_15):=hq1 15 (by decide)
   have bY:x1.1[o1+(j1 * 18+16)]? = some (pe1_1):=hq1 16 (by decide)
   have bA:x1.1[o1+(j1 * 18+17)]? = some (.map qme1):=hq1 17 (by decide)
   have cO:cellsAt x1.1 (o1+j1 * 18) 16=some (.agg #[ze1_0_0,ze1_0_1,ze1_0_2,ze1_0_3,ze1_0_4,ze1_0_5,ze1_0_6,ze1_0_7,ze1_0_8,ze1_0_9,ze1_0_10,ze1_0_11,ze1_0_12,ze1_0_13,ze1_0_14,ze1_0_15]):=by
    refine cellsAt_of (l:=[ze1_0_0,ze1_0_1,ze1_0_2,ze1_0_3,ze1_0_4,ze1_0_5,ze1_0_6,ze1_0_7,ze1_0_8,ze1_0_9,ze1_0_10,ze1_0_11,ze1_0_12,ze1_0_13,ze1_0_14,ze1_0_15]) (fun j hj => ?_) rfl (by omega)
    rw [show o1+j1 * 18+j=o1+(j1 * 18+(0+j)) by omega]
    exact (hq1 (0+j) (by omega)).trans (get_mid (pre:=[]) (xs:=[ze1_0_0,ze1_0_1,ze1_0_2,ze1_0_3,ze1_0_4,ze1_0_5,ze1_0_6,ze1_0_7,ze1_0_8,ze1_0_9,ze1_0_10,ze1_0_11,ze1_0_12,ze1_0_13,ze1_0_14,ze1_0_15]) (post:=[pe1_1,.map qme1]) hj)
   obtain ⟨Xe1_1,dO⟩:∃ X,X=fixedS (y1.at 1).s.length 2++(y1.at 1).s:=⟨_,rfl⟩
   have eT:(y1.at 1).null=false:=(ge1_1.isnull (by decide)).trans (nullS_early (by show ver < (10:Int);omega))
   have dM:partS (d+1) fs_X0 ver false y1=Xe1_1++[]:=partS_no (plainL_not eM (plainL_has (by decide) dS ((fieldS_ptr_f ge1_1 rfl (by decide)).trans (by rw [eT,if_neg (by decide)];exact dO.symm)) rfl))
   rw [dM] at bI
   simp only [List.length_append,List.length_nil] at bI
   repeat ((first|refine qA rfl ?_|apply qB|refine qC rfl ?_|apply qD|apply qE|apply qF|apply qG|apply qH);try simp (disch:=(first|omega|(simp only [qI,qJ,qK]<;>omega)|exact qL _)) only [go_sem,↓reduceIte,n0,reduceCtorEq,n1,n2,n3,n4,n5,i0,i1,i2,i3,i4,i5,i6,i7,hv_2,eF,hni_0,bO,bP,bZ,cC,cD,cE,cH,cI,cJ,cM,bQ,bR,bU,bV,bW,bX,bY,bA,fze1_0_0,fze1_0_1,fze1_0_2,fze1_0_3,fze1_0_4,fze1_0_5,fze1_0_6,fze1_0_7,fze1_0_8,fze1_0_9,fze1_0_10,fze1_0_11,fze1_0_12,fze1_0_13,fze1_0_14,fze1_0_15,cO,aY,aX,aZ,b6,hI1,hN1,hS1])
   obtain ⟨bte1_1,ote1_1,xte1_1,gQ,gN,eS,gO⟩:∃ b o x,pe1_1 = .pointer (some ⟨b,o,none⟩)∧okM b∧blk w b=some x∧x.1[o]? = some (strV (y1.at 1).s):=by
    have h:=fT
    unfold PtrText at h
    rw [if_neg (by rw [eT];decide)] at h
    exact h
   have gP:=ha2.upd.blk_some eS (hd _ (blk_lt eS) gN)
   repeat (first|simp (disch:=(first|omega|(simp only [qI,qJ,qK]<;>omega)|exact qL _)) only [go_sem,↓reduceIte,n0,reduceCtorEq,n1,n2,n3,n4,n5,i0,i1,i2,i3,i4,i5,i6,i7,hv_2,eF,hni_0,bO,bP,bZ,cC,cD,cE,cH,cI,cJ,cM,bQ,bR,bU,bV,bW,bX,bY,bA,fze1_0_0,fze1_0_1,fze1_0_2,fze1_0_3,fze1_0_4,fze1_0_5,fze1_0_6,fze1_0_7,fze1_0_8,fze1_0_9,fze1_0_10,fze1_0_11,fze1_0_12,fze1_0_13,fze1_0_14,fze1_0_15,cO,aY,aX,aZ,b6,hI1,hN1,hS1,gQ,gP,gO]|refine qA rfl ?_|apply qB|refine qC rfl ?_|apply qD|apply qE|apply qF|apply qG|apply qH)
   refine (AppendString_fn _ _ _ ha2.own hB2 (y1.at 1).s (ge1_1.text (.inl rfl)) (by simp only [List.length_append,List.length_nil];omega)).mono ?_
   rintro r3 w3 hc3
   rw [← dO] at hc3
   have ha3:=ha2.trans hc3
   have hB3:B≤w3.heap.size:=Nat.le_trans hB ha3.upd.size
   have hv_3:=ha3.upd.blk_some hv hdv
   have hZ:=ha3.upd.blk_some hx1 bM
   repeat ((first|refine qA rfl ?_|apply qB|refine qC rfl ?_|apply qD|apply qE|apply qF|apply qG|apply qH);try simp (disch:=(first|omega|(simp only [qI,qJ,qK]<;>omega)|exact qL _)) only [go_sem,↓reduceIte,n0,reduceCtorEq,n1,n2,n3,n4,n5,i0,i1,i2,i3,i4,i5,i6,i7,aY,aX,aZ,b6,hI1,hN1,hS1])
   refine ⟨⟨j1+1,_,by omega,rfl,rfl,ha3.eqs ?_⟩,?_⟩
   ·rw [dP,List.flatMap_append,List.flatMap_cons,List.flatMap_nil,List.append_nil,← dN,dM];simp only [List.append_assoc,List.append_nil,List.nil_append]
   ·simp only [RowKit.intOf];omega
  ·have fO:j1=L_0.length:=by omega
   subst fO
   rw [List.take_length,← hXE_0] at ha2
   repeat ((first|refine qA rfl ?_|apply qB|refine qC rfl ?_|apply qD|apply qE|apply qF|apply qG|apply qH);try simp (disch:=(first|omega|(simp only [qI,qJ,qK]<;>omega)|exact qL _)) only [go_sem,↓reduceIte,n0,reduceCtorEq,n1,n2,n3,n4,n5,i0,i1,i2,i3,i4,i5,i6,i7,hI1,hN1])
   exact ⟨_,aY,aX,aZ,b6,ha2⟩
 ·rintro ρ w4 ⟨r4,bB,bC,bD,bE,ha4⟩
  have hB4:B≤w4.heap.size:=Nat.le_trans hB ha4.upd.size
  have hv_4:=ha4.upd.blk_some hv hdv
  repeat ((first|refine qA rfl ?_|apply qB|refine qC rfl ?_|apply qD|apply qE|apply qF|apply qG|apply qH);try simp (disch:=(first|omega|(simp only [qI,qJ,qK]<;>omega)|exact qL _)) only [go_sem,↓reduceIte,n0,reduceCtorEq,n1,n2,n3,n4,n5,i0,i1,i2,i3,i4,i5,i6,i7,hv_4,hni_0,bB,bC,bD,bE])
  refine (AppendBool_fn _ _ _ ha4.own hB4 _ (by simp only [List.length_append,List.length_nil];omega)).mono ?_
  rintro r5 w5 hc5
  rw [← hXX_1] at hc5
  have ha5:=ha4.trans hc5
  have hB5:B≤w5.heap.size:=Nat.le_trans hB ha5.upd.size
  have hv_5:=ha5.upd.blk_some hv hdv
  repeat ((first|refine qA rfl ?_|apply qB|refine qC rfl ?_|apply qD|apply qE|apply qF|apply qG|apply qH);try simp (disch:=(first|omega|(simp only [qI,qJ,qK]<;>omega)|exact qL _)) only [go_sem,↓reduceIte,n0,reduceCtorEq,n1,n2,n3,n4,n5,i0,i1,i2,i3,i4,i5,i6,i7,hv_5,hni_0,bB,bC,bD,bE])
  refine (AppendBool_fn _ _ _ ha5.own hB5 _ (by simp only [List.length_append,List.length_nil];omega)).mono ?_
  rintro r6 w6 hc6
  rw [← hXX_2] at hc6
  have ha6:=ha5.trans hc6
  have hB6:B≤w6.heap.size:=Nat.le_trans hB ha6.upd.size
  have hv_6:=ha6.upd.blk_some hv hdv
  repeat ((first|refine qA rfl ?_|apply qB|refine qC rfl ?_|apply qD|apply qE|apply qF|apply qG|apply qH);try simp (disch:=(first|omega|(simp only [qI,qJ,qK]<;>omega)|exact qL _)) only [go_sem,↓reduceIte,n0,reduceCtorEq,n1,n2,n3,n4,n5,i0,i1,i2,i3,i4,i5,i6,i7,hv_6,hni_0,bB,bC,bD,bE])
  refine (AppendBool_fn _ _ _ ha6.own hB6 _ (by simp only [List.length_append,List.length_nil];omega)).mono ?_
  rintro r7 w7 hc7
  rw [← hXX_3] at hc7
  have ha7:=ha6.trans hc7
  have hB7:B≤w7.heap.size:=Nat.le_trans hB ha7.upd.size
  have hv_7:=ha7.upd.blk_some hv hdv
  repeat ((first|refine qA rfl ?_|apply qB|refine qC rfl ?_|apply qD|apply qE|apply qF|apply qG|apply qH);try simp (disch:=(first|omega|(simp only [qI,qJ,qK]<;>omega)|exact qL _)) only [go_sem,↓reduceIte,n0,reduceCtorEq,n1,n2,n3,n4,n5,i0,i1,i2,i3,i4,i5,i6,i7,hv_7,hni_0,bB,bC,bD,bE])
  refine ha7.eqs ?_
  rw [hP];simp only [List.append_assoc,List.append_nil,List.nil_append]

set_option maxHeartbeats 4000000 in
theorem appQ_4 {d B:Nat} {okM:Blocks} {ver:Int} (hlo:9≤ver) (hhi:ver≤9) (t:Tree) (cells:List Value) (v:Value) (s:List UInt8) (w:World) {vb:Nat} (ho:OwnBy 5 B w v s) (hB:B≤w.heap.size) (hvb:blk w vb=some ((.int .i16 ver :: cells).toArray,68,(0,0)))
  (hR:RepS true (d+2) fs_Q okM w t cells) (hfit:FitW ver (d+2) fs_Q t) (hd:∀ b,b < w.heap.size→okM b→¬ ownB v b) (hdv:¬ ownB v vb) (hlen:s.length+(partS (d+2) fs_Q ver true t).length≤2 ^ 41) :
  Fn Tryz.prog 90 #[.pointer (some ⟨vb,0,none⟩),v] w fun r w'=>AppR 5 B w v s (partS (d+2) fs_Q ver true t) r w':=by
 obtain ⟨⟨g_0,g_1,g_2,g_3,-⟩,hfu⟩:=hfit
 replace g_0:hasS fQ_0 ver=true→FitWF (FitW ver (d+1)) ver fQ_0 (t.at 0):=g_0
 have hh_0:hasS fQ_0 ver=true:=hasS_t (by show (0:Int)≤ver;omega) (by show (-1:Int) < 0∨ver≤(-1:Int);omega)
 replace g_0:=g_0 hh_0
 replace g_1:hasS fQ_1 ver=true→FitWF (FitW ver (d+1)) ver fQ_1 (t.at 1):=g_1
 have hh_1:hasS fQ_1 ver=true:=hasS_t (by show (4:Int)≤ver;omega) (by show (-1:Int) < 0∨ver≤(-1:Int);omega)
 replace g_1:=g_1 hh_1
 replace g_2:hasS fQ_2 ver=true→FitWF (FitW ver (d+1)) ver fQ_2 (t.at 2):=g_2
 have hh_2:hasS fQ_2 ver=true:=hasS_t (by show (8:Int)≤ver;omega) (by show (10:Int) < 0∨ver≤(10:Int);omega)
 replace g_2:=g_2 hh_2
 replace g_3:hasS fQ_3 ver=true→FitWF (FitW ver (d+1)) ver fQ_3 (t.at 3):=g_3
 have hh_3:hasS fQ_3 ver=true:=hasS_t (by show (8:Int)≤ver;omega) (by show (-1:Int) < 0∨ver≤(-1:Int);omega)
 replace g_3:=g_3 hh_3
 obtain ⟨cs,q,hcs,hL,hT⟩:=hR.inv
 obtain ⟨c_0,e_0,rfl,h_0,c_1,e_1,rfl,h_1,c_2,e_2,rfl,h_2,c_3,e_3,rfl,h_3,rfl⟩:=hL
 replace h_0:RepF (RepS true (d+1)) (szS true (d+1)) fQ_0 okM w (t.at 0) c_0:=h_0
 replace h_1:RepF (RepS true (d+1)) (szS true (d+1)) fQ_1 okM w (t.at 1) c_1:=h_1
 replace h_2:RepF (RepS true (d+1)) (szS true (d+1)) fQ_2 okM w (t.at 2) c_2:=h_2
 replace h_3:RepF (RepS true (d+1)) (szS true (d+1)) fQ_3 okM w (t.at 3) c_3:=h_3
 obtain ⟨p_0,L_0,rfl,hLL_0,hs_0,hnn_0⟩:=RepF_listN g_0 rfl (by decide) h_0
 obtain ⟨ab_0,ac_0,rfl,_⟩:=SlR.shape hs_0
 have hni_0:=hnn_0 _ _ _ rfl
 have hgl_0:=g_0.listL rfl hLL_0
 have hll_0:=hgl_0.1
 obtain rfl:=(RepF_num (by decide)).1 h_1
 obtain rfl:=(RepF_num (by decide)).1 h_2
 obtain rfl:=(RepF_num (by decide)).1 h_3
 obtain ⟨qm,rfl⟩:=hT.shape
 have hv:blk w vb=some (#[.int .i16 ver,.slice ab_0 L_0.length ac_0,.bool (decide ((t.at 1).n % 2=1)),.bool (decide ((t.at 2).n % 2=1)),.bool (decide ((t.at 3).n % 2=1)),.map qm],68,(0,0)):=by rw [hvb,hcs];rfl
 clear hvb hcs
 obtain ⟨XL_0,hXL_0⟩:∃ X,X=countedS true (nullS fQ_0 ver (t.at 0)) L_0.length 4:=⟨_,rfl⟩
 obtain ⟨XE_0,hXE_0⟩:∃ X,X=L_0.flatMap (fun x=>partS (d+1) fs_X0 ver true x):=⟨_,rfl⟩
 obtain ⟨X_1,hXX_1⟩:∃ X,X=[if decide ((t.at 1).n % 2=1)=true then (1:UInt8) else 0]:=⟨_,rfl⟩
 obtain ⟨X_2,hXX_2⟩:∃ X,X=[if decide ((t.at 2).n % 2=1)=true then (1:UInt8) else 0]:=⟨_,rfl⟩
 obtain ⟨X_3,hXX_3⟩:∃ X,X=[if decide ((t.at 3).n % 2=1)=true then (1:UInt8) else 0]:=⟨_,rfl⟩
 obtain ⟨XU,hXU⟩:∃ X,X=uvarS t.u.length:=⟨_,rfl⟩
 obtain ⟨XT,hXT⟩:∃ X,X=t.u.flatMap oneTag:=⟨_,rfl⟩
 have hP:partS (d+2) fs_Q ver true t=((XL_0++XE_0)++(X_1++(X_2++(X_3++[]))))++(XU++XT):=by rw [hXU,hXT];exact partS_yes rfl hfu (plainL_has (by decide) hh_0 ((fieldS_listN (g:=(fun x=>partS (d+1) fs_X0 ver true x)) g_0 rfl hLL_0 (fun x _=>valueS_part)).trans (by rw [hXL_0,hXE_0])) (plainL_has (by decide) hh_1 ((fieldS_bool rfl).trans hXX_1.symm) (plainL_has (by decide) hh_2 ((fieldS_bool rfl).trans hXX_2.symm) (plainL_has (by decide) hh_3 ((fieldS_bool rfl).trans hXX_3.symm) rfl))))
 rw [hP] at hlen
 simp only [List.length_append,List.length_nil] at hlen
 have hdK:∀ {r:Value} {w':World} {add:List UInt8},AppR 5 B w v s add r w'→∀ b,b < w'.heap.size→OkS okM w.heap.size b→¬ ownB r b:=fun h b _ hk ho=>(h.frame b ho).elim (hd b hk.2 hk.1) (fun h=>by have:=hk.2;omega)
 have ownK:∀ {r:Value} {w':World} {add:List UInt8} {b:Nat},AppR 5 B w v s add r w'→b < w.heap.size→¬ ownB v b→¬ ownB r b:=fun h hb hn ho=>(h.frame _ ho).elim hn (fun h=>by omega)
 have ha0:AppR 5 B w v s [] v w:=AppR.refl ho
 obtain ⟨w0,hw0⟩:∃ w0,w0=w:=⟨_,rfl⟩
 have hB0:=hB
 have hv_0:=hv
 refine fn_of_W Tryz.func90 rfl Tryz.results90 Tryz.ntmps90 rfl ?_
 repeat ((first|refine qA rfl ?_|apply qB|refine qC rfl ?_|apply qD|apply qE|apply qF|apply qG|apply qH);try simp (disch:=(first|omega|(simp only [qI,qJ,qK]<;>omega)|exact qL _)) only [go_sem,↓reduceIte,n0,reduceCtorEq,n1,n2,n3,n4,n5,i0,i1,i2,i3,i4,i5,i6,i7,hv_0,hni_0])
 refine (AppendCompactNullableArrayLen_fn _ _ _ ha0.own hB0 L_0.length hll_0 (nullS fQ_0 ver (t.at 0)) (by simp only [List.length_append,List.length_nil];omega)).mono ?_
 rintro r1 w1 hc1
 rw [← hXL_0] at hc1
 have ha1:=ha0.trans hc1
 have hB1:B≤w1.heap.size:=Nat.le_trans hB ha1.upd.size
 have hv_1:=ha1.upd.blk_some hv hdv
 repeat ((first|refine qA rfl ?_|apply qB|refine qC rfl ?_|apply qD|apply qE|apply qF|apply qG|apply qH);try simp (disch:=(first|omega|(simp only [qI,qJ,qK]<;>omega)|exact qL _)) only [go_sem,↓reduceIte,n0,reduceCtorEq,n1,n2,n3,n4,n5,i0,i1,i2,i3,i4,i5,i6,i7,hv_1,hni_0])
 have jE:=ha1
 refine W.exitJ 0 (fun ρ w'=>∃ r,ρ 1=r∧ρ 0 = .pointer (some ⟨vb,0,none⟩)∧ρ 5 = .int .i16 ver∧ρ 6 = .bool true∧AppR 5 B w v s (([]++XL_0)++XE_0) r w')
  (W.loop (fun ρ w'=>∃ (j:Nat) (r:Value),j≤L_0.length∧ρ 55 = .int .i64 j∧ρ 54 = .int .i64 L_0.length∧ρ 7 = .slice ab_0 L_0.length ac_0∧ρ 1=r∧ρ 0 = .pointer (some ⟨vb,0,none⟩)∧ρ 5 = .int .i16 ver∧ρ 6 = .bool true∧AppR 5 B w v s (([]++XL_0)++(L_0.take j).flatMap (fun x=>partS (d+1) fs_X0 ver true x)) r w')
   (fun ρ _=>L_0.length - (RowKit.intOf (ρ 55)).toNat) ?_ ?_) ?_
 ·refine ⟨0,_,Nat.zero_le _,?_,?_,?_,?_,?_,?_,?_,ha1.eqs (by rw [List.take_zero,List.flatMap_nil,List.append_nil])⟩<;>simp (disch:=(first|omega|(simp only [qI,qJ,qK]<;>omega)|exact qL _)) only [go_sem,↓reduceIte,n0,reduceCtorEq,n1,n2,n3,n4,n5,i0,i1,i2,i3,i4,i5,i6,i7]
  all_goals rfl
 ·rintro ρ w2 ⟨j1,r2,hj1,hI1,hN1,hS1,aY,aX,aZ,b6,ha2⟩
  have hB2:B≤w2.heap.size:=Nat.le_trans hB ha2.upd.size
  have hv_2:=ha2.upd.blk_some hv hdv
  by_cases cZ:j1 < L_0.length
  ·obtain ⟨_,b1,o1,x1,ce1,hb1,hok1,hx1,fE,jL,jK,hq1,cR⟩:=SlR.get (size:=18) (by decide) hs_0 cZ
   subst hb1
   have dP:L_0.take (j1+1)=L_0.take j1++[L_0[j1]]:=List.take_succ_eq_append_getElem cZ
   have bI:=take_flatMap_len L_0 (fun x=>partS (d+1) fs_X0 ver true x) (j1+1)
   rw [← hXE_0,dP,List.flatMap_append,List.flatMap_cons,List.flatMap_nil,List.append_nil] at bI
   have fM:=hgl_0.2 _ (List.getElem_mem cZ)
   generalize L_0[j1] = y1 at *
   have bM:=hd b1 fE hok1
   obtain ⟨T1,dN⟩:∃ T,T=(L_0.take j1).flatMap (fun x=>partS (d+1) fs_X0 ver true x):=⟨_,rfl⟩
   rw [← dN] at ha2 bI
   have eF:=ha2.upd.blk_some hx1 bM
   replace cR:RepS true (d+1) fs_X0 okM w y1 ce1:=Rep1_part.1 cR
   have fJ:FitW ver (d+1) fs_X0 y1:=fM.2 rfl
   obtain ⟨⟨ge1_0,ge1_1,-⟩,dL⟩:=fJ
   replace ge1_0:hasS fX0_0 ver=true→FitWF (FitW ver d) ver fX0_0 (y1.at 0):=ge1_0
   have eM:hasS fX0_0 ver=false:=hasS_f (by show ver < 10∨(0≤(-1:Int)∧(-1:Int) < ver);omega)
   clear ge1_0
   replace ge1_1:hasS fX0_1 ver=true→FitWF (FitW ver d) ver fX0_1 (y1.at 1):=ge1_1
   have dS:hasS fX0_1 ver=true:=hasS_t (by show (0:Int)≤ver;omega) (by show (-1:Int) < 0∨ver≤(-1:Int);omega)
   replace ge1_1:=ge1_1 dS
   obtain ⟨cse1,qe1,fG,eY,e7⟩:=cR.inv
   obtain ⟨ce1_0,ee1_0,rfl,cW,ce1_1,ee1_1,rfl,cX,rfl⟩:=eY
   replace cW:RepF (RepS true d) (szS true d) fX0_0 okM w (y1.at 0) ce1_0:=cW
   replace cX:RepF (RepS true d) (szS true d) fX0_1 okM w (y1.at 1) ce1_1:=cX
   obtain rfl:=(RepF_uuid rfl).1 cW
   have fY:((uuidS (y1.at 0).s).map byteV).length=16:=by rw [List.length_map,uuidS_len]
   have dQ:=flat_bytes (uuidS (y1.at 0).s)
   generalize iK:(uuidS (y1.at 0).s).map byteV=Ze1_0 at *
   obtain ⟨ze1_0_0,ze1_0_1,ze1_0_2,ze1_0_3,ze1_0_4,ze1_0_5,ze1_0_6,ze1_0_7,ze1_0_8,ze1_0_9,ze1_0_10,ze1_0_11,ze1_0_12,ze1_0_13,ze1_0_14,ze1_0_15,rfl⟩:=list16 fY
   simp only [List.all_cons,List.all_nil,Bool.and_true,Bool.and_eq_true] at dQ
   obtain ⟨fze1_0_0,fze1_0_1,fze1_0_2,fze1_0_3,fze1_0_4,fze1_0_5,fze1_0_6,fze1_0_7,fze1_0_8,fze1_0_9,fze1_0_10,fze1_0_11,fze1_0_12,fze1_0_13,fze1_0_14,fze1_0_15⟩:=dQ
   obtain ⟨pe1_1,rfl,fT⟩:=(RepF_ptr rfl (by decide)).1 cX
   obtain ⟨qme1,rfl⟩:=e7.shape
   subst fG
   have bO:x1.1[o1+j1 * 18]? = some (ze1_0_0):=hq1 0 (by decide)
   have bP:x1.1[o1+(j1 * 18+1)]? = some (ze1_0_1):=hq1 1 (by decide)
   have bZ:x1.1[o1+(j1 * 18+2)]? = some (ze1_0_2):=hq1 2 (by decide)
   have cC:x1.1[o1+(j1 * 18+3)]? = some (ze1_0_3):=hq1 3 (by decide)
   have cD:x1.1[o1+(j1 * 18+4)]? = some (ze1_0_4):=hq1 4 (by decide)
   have cE:x1.1[o1+(j1 * 18+5)]? = some (ze1_0_5):=hq1 5 (by decide)
   have cH:x1.1[o1+(j1 * 18+6)]? = some (ze1_0_6):=hq1 6 (by decide)
   have cI:x1.1[o1+(j1 * 18+7)]? = some (ze1_0_7):=hq1 7 (by decide)
   have cJ:x1.1[o1+(j1 * 18+8)]? = some (ze1_0_8):=hq1 8 (by decide)
   have cM:x1.1[o1+(j1 * 18+9)]? = some (ze1_0_9):=hq1 9 (by decide)
   have bQ:x1.1[o1+(j1 * 18+10)]? = some (ze1_0_10):=hq1 10 (by decide)
   have bR:x1.1[o1+(j1 * 18+11)]? = some (ze1_0_11):=hq1 11 (by decide)
   have bU:x1.1[o1+(j1 * 18+12)]? = some (ze1_0_12):=hq1 12 (by decide)
   have bV:x1.1[o1+(j1 * 18+13)]? = some (ze1_0_13):=hq1 13 (by decide)
   have bW:x1.1[o1+(j1 * 18+14)]? = some (ze1_0_14):=hq1 14 (by decide)
   have bX:x1.1[o1+(j1 * 18+15)]? = some (ze1_0_15):=hq1 15 (by decide)
   have bY:x1.1[o1+(j1 * 18+16)]? = some (pe1_1):=hq1 16 (by decide)
   have bA:x1.1[o1+(j1 * 18+17)]? = some (.map qme1):=hq1 17 (by decide)
   have cO:cellsAt x1.1 (o1+j1 * 18) 16=some (.agg #[ze1_0_0,ze1_0_1,ze1_0_2,ze1_0_3,ze1_0_4,ze1_0_5,ze1_0_6,ze1_0_7,ze1_0_8,ze1_0_9,ze1_0_10,ze1_0_11,ze1_0_12,ze1_0_13,ze1_0_14,ze1_0_15]):=by
    refine cellsAt_of (l:=[ze1_0_0,ze1_0_1,ze1_0_2,ze1_0_3,ze1_0_4,ze1_0_5,ze1_0_6,ze1_0_7,ze1_0_8,ze1_0_9,ze1_0_10,ze1_0_11,ze1_0_12,ze1_0_13,ze1_0_14,ze1_0_15]) (fun j hj => ?_) rfl (by omega)
    rw [show o1+j1 * 18+j=o1+(j1 * 18+(0+j)) by omega]
    exact (hq1 (0+j) (by omega)).trans (get_mid (pre:=[]) (xs:=[ze1_0_0,ze1_0_1,ze1_0_2,ze1_0_3,ze1_0_4,ze1_0_5,ze1_0_6,ze1_0_7,ze1_0_8,ze1_0_9,ze1_0_10,ze1_0_11,ze1_0_12,ze1_0_13,ze1_0_14,ze1_0_15]) (post:=[pe1_1,.map qme1]) hj)
   obtain ⟨Xe1_1,dO⟩:∃ X,X=uvarS ((y1.at 1).s.length+1)++(y1.at 1).s:=⟨_,rfl⟩
   have eT:(y1.at 1).null=false:=(ge1_1.isnull (by decide)).trans (nullS_early (by show ver < (10:Int);omega))
   obtain ⟨XUe1,iJ⟩:∃ X,X=uvarS y1.u.length:=⟨_,rfl⟩
   obtain ⟨XTe1,iI⟩:∃ X,X=y1.u.flatMap oneTag:=⟨_,rfl⟩
   have dM:partS (d+1) fs_X0 ver true y1=(Xe1_1++[])++(XUe1++XTe1):=by rw [iJ,iI];exact partS_yes rfl dL (plainL_not eM (plainL_has (by decide) dS ((fieldS_ptr_t ge1_1 rfl (by decide)).trans (by rw [eT,if_neg (by decide)];exact dO.symm)) rfl))
   rw [dM] at bI
   simp only [List.length_append,List.length_nil] at bI
   repeat ((first|refine qA rfl ?_|apply qB|refine qC rfl ?_|apply qD|apply qE|apply qF|apply qG|apply qH);try simp (disch:=(first|omega|(simp only [qI,qJ,qK]<;>omega)|exact qL _)) only [go_sem,↓reduceIte,n0,reduceCtorEq,n1,n2,n3,n4,n5,i0,i1,i2,i3,i4,i5,i6,i7,hv_2,eF,hni_0,bO,bP,bZ,cC,cD,cE,cH,cI,cJ,cM,bQ,bR,bU,bV,bW,bX,bY,bA,fze1_0_0,fze1_0_1,fze1_0_2,fze1_0_3,fze1_0_4,fze1_0_5,fze1_0_6,fze1_0_7,fze1_0_8,fze1_0_9,fze1_0_10,fze1_0_11,fze1_0_12,fze1_0_13,fze1_0_14,fze1_0_15,cO,aY,aX,aZ,b6,hI1,hN1,hS1])
   obtain ⟨bte1_1,ote1_1,xte1_1,gQ,gN,eS,gO⟩:∃ b o x,pe1_1 = .pointer (some ⟨b,o,none⟩)∧okM b∧blk w b=some x∧x.1[o]? = some (strV (y1.at 1).s):=by
    have h:=fT
    unfold PtrText at h
    rw [if_neg (by rw [eT];decide)] at h
    exact h
   have gP:=ha2.upd.blk_some eS (hd _ (blk_lt eS) gN)
   repeat (first|simp (disch:=(first|omega|(simp only [qI,qJ,qK]<;>omega)|exact qL _)) only [go_sem,↓reduceIte,n0,reduceCtorEq,n1,n2,n3,n4,n5,i0,i1,i2,i3,i4,i5,i6,i7,hv_2,eF,hni_0,bO,bP,bZ,cC,cD,cE,cH,cI,cJ,cM,bQ,bR,bU,bV,bW,bX,bY,bA,fze1_0_0,fze1_0_1,fze1_0_2,fze1_0_3,fze1_0_4,fze1_0_5,fze1_0_6,fze1_0_7,fze1_0_8,fze1_0_9,fze1_0_10,fze1_0_11,fze1_0_12,fze1_0_13,fze1_0_14,fze1_0_15,cO,aY,aX,aZ,b6,hI1,hN1,hS1,gQ,gP,gO]|refine qA rfl ?_|apply qB|refine qC rfl ?_|apply qD|apply qE|apply qF|apply qG|apply qH)
   refine (AppendCompactString_fn _ _ _ ha2.own hB2 (y1.at 1).s (ge1_1.text (.inl rfl)) (by simp only [List.length_append,List.length_nil];omega)).mono ?_
   rintro r3 w3 hc3
   rw [← dO] at hc3
   have ha3:=ha2.trans hc3
   have hB3:B≤w3.heap.size:=Nat.le_trans hB ha3.upd.size
   have hv_3:=ha3.upd.blk_some hv hdv
   have hZ:=ha3.upd.blk_some hx1 bM
   repeat ((first|refine qA rfl ?_|apply qB|refine qC rfl ?_|apply qD|apply qE|apply qF|apply qG|apply qH);try simp (disch:=(first|omega|(simp only [qI,qJ,qK]<;>omega)|exact qL _)) only [go_sem,↓reduceIte,n0,reduceCtorEq,n1,n2,n3,n4,n5,i0,i1,i2,i3,i4,i5,i6,i7,hv_3,hZ,hni_0,bO,bP,bZ,cC,cD,cE,cH,cI,cJ,cM,bQ,bR,bU,bV,bW,bX,bY,bA,fze1_0_0,fze1_0_1,fze1_0_2,fze1_0_3,fze1_0_4,fze1_0_5,fze1_0_6,fze1_0_7,fze1_0_8,fze1_0_9,fze1_0_10,fze1_0_11,fze1_0_12,fze1_0_13,fze1_0_14,fze1_0_15,cO,aY,aX,aZ,b6,hI1,hN1,hS1])
   have mS:TagsM (OkS okM w.heap.size) w3 (.map qme1) y1.u:=(e7.weaken fun b h1 h2=>⟨h2,h1⟩).keep (ha3.upd.keeps fun b hb hk=>hd b hb hk.1)
   refine (TagsLen_fn (ok:=OkS okM w.heap.size) w3 hZ (to:=o1+(j1 * 18+17)) bA mS).mono ?_
   rintro _ w3' ⟨rfl,rfl⟩
   have nE:y1.u.length≤32767:=dL.1
   have ew3:IntKind.u32.wrap (y1.u.length:Int)=y1.u.length:=u32_wrap (by omega)
   have ez3:IntKind.u32.wrap (0+(y1.u.length:Int))=y1.u.length:=by rw [Int.zero_add,u32_wrap (by omega)]
   simp (disch:=(first|omega|(simp only [qI,qJ,qK]<;>omega)|exact qL _)) only [go_sem,↓reduceIte,n0,reduceCtorEq,n1,n2,n3,n4,n5,i0,i1,i2,i3,i4,i5,i6,i7,hv_3,hZ,hni_0,bO,bP,bZ,cC,cD,cE,cH,cI,cJ,cM,bQ,bR,bU,bV,bW,bX,bY,bA,fze1_0_0,fze1_0_1,fze1_0_2,fze1_0_3,fze1_0_4,fze1_0_5,fze1_0_6,fze1_0_7,fze1_0_8,fze1_0_9,fze1_0_10,fze1_0_11,fze1_0_12,fze1_0_13,fze1_0_14,fze1_0_15,cO,aY,aX,aZ,b6,hI1,hN1,hS1,ew3,ez3]
   refine (AppendUvarint_fn _ _ _ ha3.own hB3 y1.u.length (by omega) (by simp only [List.length_append,List.length_nil];omega)).mono ?_
   rintro r4 w4 hc4
   rw [← iJ] at hc4
   have ha4:=ha3.trans hc4
   have hB4:B≤w4.heap.size:=Nat.le_trans hB ha4.upd.size
   have hv_4:=ha4.upd.blk_some hv hdv
   have jI:=ha4.upd.blk_some hx1 bM
   repeat ((first|refine qA rfl ?_|apply qB|refine qC rfl ?_|apply qD|apply qE|apply qF|apply qG|apply qH);try simp (disch:=(first|omega|(simp only [qI,qJ,qK]<;>omega)|exact qL _)) only [go_sem,↓reduceIte,n0,reduceCtorEq,n1,n2,n3,n4,n5,i0,i1,i2,i3,i4,i5,i6,i7,hv_4,jI,hni_0,bO,bP,bZ,cC,cD,cE,cH,cI,cJ,cM,bQ,bR,bU,bV,bW,bX,bY,bA,fze1_0_0,fze1_0_1,fze1_0_2,fze1_0_3,fze1_0_4,fze1_0_5,fze1_0_6,fze1_0_7,fze1_0_8,fze1_0_9,fze1_0_10,fze1_0_11,fze1_0_12,fze1_0_13,fze1_0_14,fze1_0_15,cO,aY,aX,aZ,b6,hI1,hN1,hS1])
   have m4:TagsM (OkS okM w.heap.size) w4 (.map qme1) y1.u:=(e7.weaken fun b h1 h2=>⟨h2,h1⟩).keep (ha4.upd.keeps fun b hb hk=>hd b hb hk.1)
   refine (AppendEach_fn (ok:=OkS okM w.heap.size) _ _ _ ha4.own hB4 jI (to:=o1+(j1 * 18+17)) bA m4 (rising_keys dL) dL.1 (tags_small dL m4) (hdK ha4) (ownK ha4 (blk_lt hx1) bM) (by simp only [List.length_append,List.length_nil];omega)).mono ?_
   rintro r5 w5 hc5
   rw [← iI] at hc5
   have ha5:=ha4.trans hc5
   have hB5:B≤w5.heap.size:=Nat.le_trans hB ha5.upd.size
   have hv_5:=ha5.upd.blk_some hv hdv
   have b7:=ha5.upd.blk_some hx1 bM
   repeat ((first|refine qA rfl ?_|apply qB|refine qC rfl ?_|apply qD|apply qE|apply qF|apply qG|apply qH);try simp (disch:=(first|omega|(simp only [qI,qJ,qK]<;>omega)|exact qL _)) only [go_sem,↓reduceIte,n0,reduceCtorEq,n1,n2,n3,n4,n5,i0,i1,i2,i3,i4,i5,i6,i7,aY,aX,aZ,b6,hI1,hN1,hS1])
   refine ⟨⟨j1+1,_,by omega,rfl,rfl,ha5.eqs ?_⟩,?_⟩
   ·rw [dP,List.flatMap_append,List.flatMap_cons,List.flatMap_nil,List.append_nil,← dN,dM];simp only [List.append_assoc,List.append_nil,List.nil_append]
   ·simp only [RowKit.intOf];omega
  ·have fO:j1=L_0.length:=by omega
   subst fO
   rw [List.take_length,← hXE_0] at ha2
   repeat ((first|refine qA rfl ?_|apply qB|refine qC rfl ?_|apply qD|apply qE|apply qF|apply qG|apply qH);try simp (disch:=(first|omega|(simp only [qI,qJ,qK]<;>omega)|exact qL _)) only [go_sem,↓reduceIte,n0,reduceCtorEq,n1,n2,n3,n4,n5,i0,i1,i2,i3,i4,i5,i6,i7,hI1,hN1])
   exact ⟨_,aY,aX,aZ,b6,ha2⟩
 ·rintro ρ w6 ⟨r6,bB,bC,bD,bE,ha6⟩
  have hB6:B≤w6.heap.size:=Nat.le_trans hB ha6.upd.size
  have hv_6:=ha6.upd.blk_some hv hdv
  repeat ((first|refine qA rfl ?_|apply qB|refine qC rfl ?_|apply qD|apply qE|apply qF|apply qG|apply qH);try simp (disch:=(first|omega|(simp only [qI,qJ,qK]<;>omega)|exact qL _)) only [go_sem,↓reduceIte,n0,reduceCtorEq,n1,n2,n3,n4,n5,i0,i1,i2,i3,i4,i5,i6,i7,hv_6,hni_0,bB,bC,bD,bE])
  refine (AppendBool_fn _ _ _ ha6.own hB6 _ (by simp only [List.length_append,List.length_nil];omega)).mono ?_
  rintro r7 w7 hc7
  rw [← hXX_1] at hc7
  have ha7:=ha6.trans hc7
  have hB7:B≤w7.heap.size:=Nat.le_trans hB ha7.upd.size
  have hv_7:=ha7.upd.blk_some hv hdv
  repeat ((first|refine qA rfl ?_|apply qB|refine qC rfl ?_|apply qD|apply qE|apply qF|apply qG|apply qH);try simp (disch:=(first|omega|(simp only [qI,qJ,qK]<;>omega)|exact qL _)) only [go_sem,↓reduceIte,n0,reduceCtorEq,n1,n2,n3,n4,n5,i0,i1,i2,i3,i4,i5,i6,i7,hv_7,hni_0,bB,bC,bD,bE])
  refine (AppendBool_fn _ _ _ ha7.own hB7 _ (by simp only [List.length_append,List.length_nil];omega)).mono ?_
  rintro r8 w8 hc8
  rw [← hXX_2] at hc8
  have ha8:=ha7.trans hc8
  have hB8:B≤w8.heap.size:=Nat.le_trans hB ha8.upd.size
  have hv_8:=ha8.upd.blk_some hv hdv
  repeat ((first|refine qA rfl ?_|apply qB|refine qC rfl ?_|apply qD|apply qE|apply qF|apply qG|apply qH);try simp (disch:=(first|omega|(simp only [qI,qJ,qK]<;>omega)|exact qL _)) only [go_sem,↓reduceIte,n0,reduceCtorEq,n1,n2,n3,n4,n5,i0,i1,i2,i3,i4,i5,i6,i7,hv_8,hni_0,bB,bC,bD,bE])
  refine (AppendBool_fn _ _ _ ha8.own hB8 _ (by simp only [List.length_append,List.length_nil];omega)).mono ?_
  rintro r9 w9 hc9
  rw [← hXX_3] at hc9
  have ha9:=ha8.trans hc9
  have hB9:B≤w9.heap.size:=Nat.le_trans hB ha9.upd.size
  have hv_9:=ha9.upd.blk_some hv hdv
  repeat ((first|refine qA rfl ?_|apply qB|refine qC rfl ?_|apply qD|apply qE|apply qF|apply qG|apply qH);try simp (disch:=(first|omega|(simp only [qI,qJ,qK]<;>omega)|exact qL _)) only [go_sem,↓reduceIte,n0,reduceCtorEq,n1,n2,n3,n4,n5,i0,i1,i2,i3,i4,i5,i6,i7,hv_9,hni_0,bB,bC,bD,bE])
  have mT:TagsM (OkS okM w.heap.size) w9 (.map qm) t.u:=(hT.weaken fun b h1 h2=>⟨h2,h1⟩).keep (ha9.upd.keeps fun b hb hk=>hd b hb hk.1)
  refine (TagsLen_fn (ok:=OkS okM w.heap.size) w9 hv_9 (to:=5) (show (#[.int .i16 ver,.slice ab_0 L_0.length ac_0,.bool (decide ((t.at 1).n % 2=1)),.bool (decide ((t.at 2).n % 2=1)),.bool (decide ((t.at 3).n % 2=1)),.map qm]:Array Value)[5]? = some (.map qm) from rfl) mT).mono ?_
  rintro _ w9' ⟨rfl,rfl⟩
  have nF:t.u.length≤32767:=hfu.1
  have ew9:IntKind.u32.wrap (t.u.length:Int)=t.u.length:=u32_wrap (by omega)
  have ez9:IntKind.u32.wrap (0+(t.u.length:Int))=t.u.length:=by rw [Int.zero_add,u32_wrap (by omega)]
  simp (disch:=(first|omega|(simp only [qI,qJ,qK]<;>omega)|exact qL _)) only [go_sem,↓reduceIte,n0,reduceCtorEq,n1,n2,n3,n4,n5,i0,i1,i2,i3,i4,i5,i6,i7,hv_9,hni_0,bB,bC,bD,bE,ew9,ez9]
  refine (AppendUvarint_fn _ _ _ ha9.own hB9 t.u.length (by omega) (by simp only [List.length_append,List.length_nil];omega)).mono ?_
  rintro r10 w10 iL
  rw [← hXU] at iL
  have eE:=ha9.trans iL
  have jN:B≤w10.heap.size:=Nat.le_trans hB eE.upd.size
  have hv_10:=eE.upd.blk_some hv hdv
  repeat ((first|refine qA rfl ?_|apply qB|refine qC rfl ?_|apply qD|apply qE|apply qF|apply qG|apply qH);try simp (disch:=(first|omega|(simp only [qI,qJ,qK]<;>omega)|exact qL _)) only [go_sem,↓reduceIte,n0,reduceCtorEq,n1,n2,n3,n4,n5,i0,i1,i2,i3,i4,i5,i6,i7,hv_10,hni_0,bB,bC,bD,bE])
  have kQ:TagsM (OkS okM w.heap.size) w10 (.map qm) t.u:=(hT.weaken fun b h1 h2=>⟨h2,h1⟩).keep (eE.upd.keeps fun b hb hk=>hd b hb hk.1)
  refine (AppendEach_fn (ok:=OkS okM w.heap.size) _ _ _ eE.own jN hv_10 (to:=5) (show (#[.int .i16 ver,.slice ab_0 L_0.length ac_0,.bool (decide ((t.at 1).n % 2=1)),.bool (decide ((t.at 2).n % 2=1)),.bool (decide ((t.at 3).n % 2=1)),.map qm]:Array Value)[5]? = some (.map qm) from rfl) kQ (rising_keys hfu) hfu.1 (tags_small hfu kQ) (hdK eE) (ownK eE (blk_lt hv) hdv) (by simp only [List.length_append,List.length_nil];omega)).mono ?_
  rintro r11 w11 iM
  rw [← hXT] at iM
  have eI:=eE.trans iM
  have kN:B≤w11.heap.size:=Nat.le_trans hB eI.upd.size
  have hv_11:=eI.upd.blk_some hv hdv
  repeat ((first|refine qA rfl ?_|apply qB|refine qC rfl ?_|apply qD|apply qE|apply qF|apply qG|apply qH);try simp (disch:=(first|omega|(simp only [qI,qJ,qK]<;>omega)|exact qL _)) only [go_sem,↓reduceIte,n0,reduceCtorEq,n1,n2,n3,n4,n5,i0,i1,i2,i3,i4,i5,i6,i7,hv_11,hni_0,bB,bC,bD,bE])
  refine eI.eqs ?_
  rw [hP];simp only [List.append_assoc,List.append_nil,List.nil_append]

set_option maxHeartbeats 4000000 in
theorem appQ_5 {d B:Nat} {okM:Blocks} {ver:Int} (hlo:10≤ver) (hhi:ver≤10) (t:Tree) (cells:List Value) (v:Value) (s:List UInt8) (w:World) {vb:Nat} (ho:OwnBy 5 B w v s) (hB:B≤w.heap.size) (hvb:blk w vb=some ((.int .i16 ver :: cells).toArray,68,(0,0)))
  (hR:RepS true (d+2) fs_Q okM w t cells) (hfit:FitW ver (d+2) fs_Q t) (hd:∀ b,b < w.heap.size→okM b→¬ ownB v b) (hdv:¬ ownB v vb) (hlen:s.length+(partS (d+2) fs_Q ver true t).length≤2 ^ 41) :
  Fn Tryz.prog 90 #[.pointer (some ⟨vb,0,none⟩),v] w fun r w'=>AppR 5 B w v s (partS (d+2) fs_Q ver true t) r w':=by
 obtain ⟨⟨g_0,g_1,g_2,g_3,-⟩,hfu⟩:=hfit
 replace g_0:hasS fQ_0 ver=true→FitWF (FitW ver (d+1)) ver fQ_0 (t.at 0):=g_0
 have hh_0:hasS fQ_0 ver=true:=hasS_t (by show (0:Int)≤ver;omega) (by show (-1:Int) < 0∨ver≤(-1:Int);omega)
 replace g_0:=g_0 hh_0
 replace g_1:hasS fQ_1 ver=true→FitWF (FitW ver (d+1)) ver fQ_1 (t.at 1):=g_1
 have hh_1:hasS fQ_1 ver=true:=hasS_t (by show (4:Int)≤ver;omega) (by show (-1:Int) < 0∨ver≤(-1:Int);omega)
 replace g_1:=g_1 hh_1
 replace g_2:hasS fQ_2 ver=true→FitWF (FitW ver (d+1)) ver fQ_2 (t.at 2):=g_2
 have hh_2:hasS fQ_2 ver=true:=hasS_t (by show (8:Int)≤ver;omega) (by show (10:Int) < 0∨ver≤(10:Int);omega)
 replace g_2:=g_2 hh_2
 replace g_3:hasS fQ_3 ver=true→FitWF (FitW ver (d+1)) ver fQ_3 (t.at 3):=g_3
 have hh_3:hasS fQ_3 ver=true:=hasS_t (by show (8:Int)≤ver;omega) (by show (-1:Int) < 0∨ver≤(-1:Int);omega)
 replace g_3:=g_3 hh_3
 obtain ⟨cs,q,hcs,hL,hT⟩:=hR.inv
 obtain ⟨c_0,e_0,rfl,h_0,c_1,e_1,rfl,h_1,c_2,e_2,rfl,h_2,c_3,e_3,rfl,h_3,rfl⟩:=hL
 replace h_0:RepF (RepS true (d+1)) (szS true (d+1)) fQ_0 okM w (t.at 0) c_0:=h_0
 replace h_1:RepF (RepS true (d+1)) (szS true (d+1)) fQ_1 okM w (t.at 1) c_1:=h_1
 replace h_2:RepF (RepS true (d+1)) (szS true (d+1)) fQ_2 okM w (t.at 2) c_2:=h_2
 replace h_3:RepF (RepS true (d+1)) (szS true (d+1)) fQ_3 okM w (t.at 3) c_3:=h_3
 obtain ⟨p_0,L_0,rfl,hLL_0,hs_0,hnn_0⟩:=RepF_listN g_0 rfl (by decide) h_0
 obtain ⟨ab_0,ac_0,rfl,_⟩:=SlR.shape hs_0
 have hni_0:=hnn_0 _ _ _ rfl
 have hgl_0:=g_0.listL rfl hLL_0
 have hll_0:=hgl_0.1
 obtain rfl:=(RepF_num (by decide)).1 h_1
 obtain rfl:=(RepF_num (by decide)).1 h_2
 obtain rfl:=(RepF_num (by decide)).1 h_3
 obtain ⟨qm,rfl⟩:=hT.shape
 have hv:blk w vb=some (#[.int .i16 ver,.slice ab_0 L_0.length ac_0,.bool (decide ((t.at 1).n % 2=1)),.bool (decide ((t.at 2).n % 2=1)),.bool (decide ((t.at 3).n % 2=1)),.map qm],68,(0,0)):=by rw [hvb,hcs];rfl
 clear hvb hcs
 obtain ⟨XL_0,hXL_0⟩:∃ X,X=countedS true (nullS fQ_0 ver (t.at 0)) L_0.length 4:=⟨_,rfl⟩
 obtain ⟨XE_0,hXE_0⟩:∃ X,X=L_0.flatMap (fun x=>partS (d+1) fs_X0 ver true x):=⟨_,rfl⟩
 obtain ⟨X_1,hXX_1⟩:∃ X,X=[if decide ((t.at 1).n % 2=1)=true then (1:UInt8) else 0]:=⟨_,rfl⟩
 obtain ⟨X_2,hXX_2⟩:∃ X,X=[if decide ((t.at 2).n % 2=1)=true then (1:UInt8) else 0]:=⟨_,rfl⟩
 obtain ⟨X_3,hXX_3⟩:∃ X,X=[if decide ((t.at 3).n % 2=1)=true then (1:UInt8) else 0]:=⟨_,rfl⟩
 obtain ⟨XU,hXU⟩:∃ X,X=uvarS t.u.length:=⟨_,rfl⟩
 obtain ⟨XT,hXT⟩:∃ X,X=t.u.flatMap oneTag:=⟨_,rfl⟩
 have hP:partS (d+2) fs_Q ver true t=((XL_0++XE_0)++(X_1++(X_2++(X_3++[]))))++(XU++XT):=by rw [hXU,hXT];exact partS_yes rfl hfu (plainL_has (by decide) hh_0 ((fieldS_listN (g:=(fun x=>partS (d+1) fs_X0 ver true x)) g_0 rfl hLL_0 (fun x _=>valueS_part)).trans (by rw [hXL_0,hXE_0])) (plainL_has (by decide) hh_1 ((fieldS_bool rfl).trans hXX_1.symm) (plainL_has (by decide) hh_2 ((fieldS_bool rfl).trans hXX_2.symm) (plainL_has (by decide) hh_3 ((fieldS_bool rfl).trans hXX_3.symm) rfl))))
 rw [hP] at hlen
 simp only [List.length_append,List.length_nil] at hlen
 have hdK:∀ {r:Value} {w':World} {add:List UInt8},AppR 5 B w v s add r w'→∀ b,b < w'.heap.size→OkS okM w.heap.size b→¬ ownB r b:=fun h b _ hk ho=>(h.frame b ho).elim (hd b hk.2 hk.1) (fun h=>by have:=hk.2;omega)
 have ownK:∀ {r:Value} {w':World} {add:List UInt8} {b:Nat},AppR 5 B w v s add r w'→b < w.heap.size→¬ ownB v b→¬ ownB r b:=fun h hb hn ho=>(h.frame _ ho).elim hn (fun h=>by omega)
 have ha0:AppR 5 B w v s [] v w:=AppR.refl ho
 obtain ⟨w0,hw0⟩:∃ w0,w0=w:=⟨_,rfl⟩
 have hB0:=hB
 have hv_0:=hv
 refine fn_of_W Tryz.func90 rfl Tryz.results90 Tryz.ntmps90 rfl ?_
 repeat ((first|refine qA rfl ?_|apply qB|refine qC rfl ?_|apply qD|apply qE|apply qF|apply qG|apply qH);try simp (disch:=(first|omega|(simp only [qI,qJ,qK]<;>omega)|exact qL _)) only [go_sem,↓reduceIte,n0,reduceCtorEq,n1,n2,n3,n4,n5,i0,i1,i2,i3,i4,i5,i6,i7,hv_0,hni_0])
 refine (AppendCompactNullableArrayLen_fn _ _ _ ha0.own hB0 L_0.length hll_0 (nullS fQ_0 ver (t.at 0)) (by simp only [List.length_append,List.length_nil];omega)).mono ?_
 rintro r1 w1 hc1
 rw [← hXL_0] at hc1
 have ha1:=ha0.trans hc1
 have hB1:B≤w1.heap.size:=Nat.le_trans hB ha1.upd.size
 have hv_1:=ha1.upd.blk_some hv hdv
 repeat ((first|refine qA rfl ?_|apply qB|refine qC rfl ?_|apply qD|apply qE|apply qF|apply qG|apply qH);try simp (disch:=(first|omega|(simp only [qI,qJ,qK]<;>omega)|exact qL _)) only [go_sem,↓reduceIte,n0,reduceCtorEq,n1,n2,n3,n4,n5,i0,i1,i2,i3,i4,i5,i6,i7,hv_1,hni_0])
 have jE:=ha1
 refine W.exitJ 0 (fun ρ w'=>∃ r,ρ 1=r∧ρ 0 = .pointer (some ⟨vb,0,none⟩)∧ρ 5 = .int .i16 ver∧ρ 6 = .bool true∧AppR 5 B w v s (([]++XL_0)++XE_0) r w')
  (W.loop (fun ρ w'=>∃ (j:Nat) (r:Value),j≤L_0.length∧ρ 55 = .int .i64 j∧ρ 54 = .int .i64 L_0.length∧ρ 7 = .slice ab_0 L_0.length ac_0∧ρ 1=r∧ρ 0 = .pointer (some ⟨vb,0,none⟩)∧ρ 5 = .int .i16 ver∧ρ 6 = .bool true∧AppR 5 B w v s (([]++XL_0)++(L_0.take j).flatMap (fun x=>partS (d+1) fs_X0 ver true x)) r w')
   (fun ρ _=>L_0.length - (RowKit.intOf (ρ 55)).toNat) ?_ ?_) ?_
 ·refine ⟨0,_,Nat.zero_le _,?_,?_,?_,?_,?_,?_,?_,ha1.eqs (by rw [List.take_zero,List.flatMap_nil,List.append_nil])⟩<;>simp (disch:=(first|omega|(simp only [qI,qJ,qK]<;>omega)|exact qL _)) only [go_sem,↓reduceIte,n0,reduceCtorEq,n1,n2,n3,n4,n5,i0,i1,i2,i3,i4,i5,i6,i7]
  all_goals rfl
 ·rintro ρ w2 ⟨j1,r2,hj1,hI1,hN1,hS1,aY,aX,aZ,b6,ha2⟩
  have hB2:B≤w2.heap.size:=Nat.le_trans hB ha2.upd.size
  have hv_2:=ha2.upd.blk_some hv hdv
  by_cases cZ:j1 < L_0.length
  ·obtain ⟨_,b1,o1,x1,ce1,hb1,hok1,hx1,fE,jL,jK,hq1,cR⟩:=SlR.get (size:=18) (by decide) hs_0 cZ
   subst hb1
   have dP:L_0.take (j1+1)=L_0.take j1++[L_0[j1]]:=List.take_succ_eq_append_getElem cZ
   have bI:=take_flatMap_len L_0 (fun x=>partS (d+1) fs_X0 ver true x) (j1+1)
   rw [← hXE_0,dP,List.flatMap_append,List.flatMap_cons,List.flatMap_nil,List.append_nil] at bI
   have fM:=hgl_0.2 _ (List.getElem_mem cZ)
   generalize L_0[j1] = y1 at *
   have bM:=hd b1 fE hok1
   obtain ⟨T1,dN⟩:∃ T,T=(L_0.take j1).flatMap (fun x=>partS (d+1) fs_X0 ver true x):=⟨_,rfl⟩
   rw [← dN] at ha2 bI
   have eF:=ha2.upd.blk_some hx1 bM
   replace cR:RepS true (d+1) fs_X0 okM w y1 ce1:=Rep1_part.1 cR
   have fJ:FitW ver (d+1) fs_X0 y1:=fM.2 rfl
   obtain ⟨⟨ge1_0,ge1_1,-⟩,dL⟩:=fJ
   replace ge1_0:hasS fX0_0 ver=true→FitWF (FitW ver d) ver fX0_0 (y1.at 0):=ge1_0
   have eM:hasS fX0_0 ver=true:=hasS_t (by show (10:Int)≤ver;omega) (by show (-1:Int) < 0∨ver≤(-1:Int);omega)
   replace ge1_0:=ge1_0 eM
   replace ge1_1:hasS fX0_1 ver=true→FitWF (FitW ver d) ver fX0_1 (y1.at 1):=ge1_1
   have dS:hasS fX0_1 ver=true:=hasS_t (by show (0:Int)≤ver;omega) (by show (-1:Int) < 0∨ver≤(-1:Int);omega)
   replace ge1_1:=ge1_1 dS
   obtain ⟨cse1,qe1,fG,eY,e7⟩:=cR.inv
   obtain ⟨ce1_0,ee1_0,rfl,cW,ce1_1,ee1_1,rfl,cX,rfl⟩:=eY
   replace cW:RepF (RepS true d) (szS true d) fX0_0 okM w (y1.at 0) ce1_0:=cW
   replace cX:RepF (RepS true d) (szS true d) fX0_1 okM w (y1.at 1) ce1_1:=cX
   obtain rfl:=(RepF_uuid rfl).1 cW
   have fY:((uuidS (y1.at 0).s).map byteV).length=16:=by rw [List.length_map,uuidS_len]
   have dQ:=flat_bytes (uuidS (y1.at 0).s)
   generalize iK:(uuidS (y1.at 0).s).map byteV=Ze1_0 at *
   obtain ⟨ze1_0_0,ze1_0_1,ze1_0_2,ze1_0_3,ze1_0_4,ze1_0_5,ze1_0_6,ze1_0_7,ze1_0_8,ze1_0_9,ze1_0_10,ze1_0_11,ze1_0_12,ze1_0_13,ze1_0_14,ze1_0_15,rfl⟩:=list16 fY
   simp only [List.all_cons,List.all_nil,Bool.and_true,Bool.and_eq_true] at dQ
   obtain ⟨fze1_0_0,fze1_0_1,fze1_0_2,fze1_0_3,fze1_0_4,fze1_0_5,fze1_0_6,fze1_0_7,fze1_0_8,fze1_0_9,fze1_0_10,fze1_0_11,fze1_0_12,fze1_0_13,fze1_0_14,fze1_0_15⟩:=dQ
   obtain ⟨pe1_1,rfl,fT⟩:=(RepF_ptr rfl (by decide)).1 cX
   obtain ⟨qme1,rfl⟩:=e7.shape
   subst fG
   have bO:x1.1[o1+j1 * 18]? = some (ze1_0_0):=hq1 0 (by decide)
   have bP:x1.1[o1+(j1 * 18+1)]? = some (ze1_0_1):=hq1 1 (by decide)
   have bZ:x1.1[o1+(j1 * 18+2)]? = some (ze1_0_2):=hq1 2 (by decide)
   have cC:x1.1[o1+(j1 * 18+3)]? = some (ze1_0_3):=hq1 3 (by decide)
   have cD:x1.1[o1+(j1 * 18+4)]? = some (ze1_0_4):=hq1 4 (by decide)
   have cE:x1.1[o1+(j1 * 18+5)]? = some (ze1_0_5):=hq1 5 (by decide)
   have cH:x1.1[o1+(j1 * 18+6)]? = some (ze1_0_6):=hq1 6 (by decide)
   have cI:x1.1[o1+(j1 * 18+7)]? = some (ze1_0_7):=hq1 7 (by decide)
   have cJ:x1.1[o1+(j1 * 18+8)]? = some (ze1_0_8):=hq1 8 (by decide)
   have cM:x1.1[o1+(j1 * 18+9)]? = some (ze1_0_9):=hq1 9 (by decide)
   have bQ:x1.1[o1+(j1 * 18+10)]? = some (ze1_0_10):=hq1 10 (by decide)
   have bR:x1.1[o1+(j1 * 18+11)]? = some (ze1_0_11):=hq1 11 (by decide)
   have bU:x1.1[o1+(j1 * 18+12)]? = some (ze1_0_12):=hq1 12 (by decide)
   have bV:x1.1[o1+(j1 * 18+13)]? = some (ze1_0_13):=hq1 13 (by decide)
   have bW:x1.1[o1+(j1 * 18+14)]? = some (ze1_0_14):=hq1 14 (by decide)
   have bX:x1.1[o1+(j1 * 18+15)]? = some (ze1_0_15):=hq1 15 (by decide)
   have bY:x1.1[o1+(j1 * 18+16)]? = some (pe1_1):=hq1 16 (by decide)
   have bA:x1.1[o1+(j1 * 18+17)]? = some (.map qme1):=hq1 17 (by decide)
   have cO:cellsAt x1.1 (o1+j1 * 18) 16=some (.agg #[ze1_0_0,ze1_0_1,ze1_0_2,ze1_0_3,ze1_0_4,ze1_0_5,ze1_0_6,ze1_0_7,ze1_0_8,ze1_0_9,ze1_0_10,ze1_0_11,ze1_0_12,ze1_0_13,ze1_0_14,ze1_0_15]):=by
    refine cellsAt_of (l:=[ze1_0_0,ze1_0_1,ze1_0_2,ze1_0_3,ze1_0_4,ze1_0_5,ze1_0_6,ze1_0_7,ze1_0_8,ze1_0_9,ze1_0_10,ze1_0_11,ze1_0_12,ze1_0_13,ze1_0_14,ze1_0_15]) (fun j hj => ?_) rfl (by omega)
    rw [show o1+j1 * 18+j=o1+(j1 * 18+(0+j)) by omega]
    exact (hq1 (0+j) (by omega)).trans (get_mid (pre:=[]) (xs:=[ze1_0_0,ze1_0_1,ze1_0_2,ze1_0_3,ze1_0_4,ze1_0_5,ze1_0_6,ze1_0_7,ze1_0_8,ze1_0_9,ze1_0_10,ze1_0_11,ze1_0_12,ze1_0_13,ze1_0_14,ze1_0_15]) (post:=[pe1_1,.map qme1]) hj)
   obtain ⟨Xe1_0,jX⟩:∃ X,X=uuidS (y1.at 0).s:=⟨_,rfl⟩
   obtain ⟨Xe1_1,dO⟩:∃ X,X=if (y1.at 1).null=true then [0] else uvarS ((y1.at 1).s.length+1)++(y1.at 1).s:=⟨_,rfl⟩
   obtain ⟨XUe1,iJ⟩:∃ X,X=uvarS y1.u.length:=⟨_,rfl⟩
   obtain ⟨XTe1,iI⟩:∃ X,X=y1.u.flatMap oneTag:=⟨_,rfl⟩
   have dM:partS (d+1) fs_X0 ver true y1=(Xe1_0++(Xe1_1++[]))++(XUe1++XTe1):=by rw [iJ,iI];exact partS_yes rfl dL (plainL_has (by decide) eM ((fieldS_uuid rfl).trans jX.symm) (plainL_has (by decide) dS ((fieldS_ptr_t ge1_1 rfl (by decide)).trans dO.symm) rfl))
   rw [dM] at bI
   simp only [List.length_append,List.length_nil] at bI
   have lK:cellsAt #[ze1_0_0,ze1_0_1,ze1_0_2,ze1_0_3,ze1_0_4,ze1_0_5,ze1_0_6,ze1_0_7,ze1_0_8,ze1_0_9,ze1_0_10,ze1_0_11,ze1_0_12,ze1_0_13,ze1_0_14,ze1_0_15] 0 16=some (.agg #[ze1_0_0,ze1_0_1,ze1_0_2,ze1_0_3,ze1_0_4,ze1_0_5,ze1_0_6,ze1_0_7,ze1_0_8,ze1_0_9,ze1_0_10,ze1_0_11,ze1_0_12,ze1_0_13,ze1_0_14,ze1_0_15]):=cellsAt_full rfl
   repeat ((first|refine qA rfl ?_|apply qB|refine qC rfl ?_|apply qD|apply qE|apply qF|apply qG|apply qH);try simp (disch:=(first|omega|(simp only [qI,qJ,qK]<;>omega)|exact qL _)) only [go_sem,↓reduceIte,n0,reduceCtorEq,n1,n2,n3,n4,n5,i0,i1,i2,i3,i4,i5,i6,i7,hv_2,eF,hni_0,bO,bP,bZ,cC,cD,cE,cH,cI,cJ,cM,bQ,bR,bU,bV,bW,bX,bY,bA,fze1_0_0,fze1_0_1,fze1_0_2,fze1_0_3,fze1_0_4,fze1_0_5,fze1_0_6,fze1_0_7,fze1_0_8,fze1_0_9,fze1_0_10,fze1_0_11,fze1_0_12,fze1_0_13,fze1_0_14,fze1_0_15,cO,aY,aX,aZ,b6,hI1,hN1,hS1,lK])
   generalize kG:wr (w2.alloc (.cells #[.int .u8 0,.int .u8 0,.int .u8 0,.int .u8 0,.int .u8 0,.int .u8 0,.int .u8 0,.int .u8 0,.int .u8 0,.int .u8 0,.int .u8 0,.int .u8 0,.int .u8 0,.int .u8 0,.int .u8 0,.int .u8 0] 98)) w2.heap.size 0 [ze1_0_0,ze1_0_1,ze1_0_2,ze1_0_3,ze1_0_4,ze1_0_5,ze1_0_6,ze1_0_7,ze1_0_8,ze1_0_9,ze1_0_10,ze1_0_11,ze1_0_12,ze1_0_13,ze1_0_14,ze1_0_15] = w3
   have l3:Ext w2 w3:=by rw [← kG];exact (Upd.alloc (Upd.refl _ _) _).wr _ _ (.inl (Nat.le_refl _))
   clear kG
   have ha3:=ha2.then l3
   have hB3:B≤w3.heap.size:=Nat.le_trans hB ha3.upd.size
   have hv_3:=ha3.upd.blk_some hv hdv
   have hZ:=ha3.upd.blk_some hx1 bM
   have hu3:=AppendUuid_fn r2 _ w3 ha3.own hB3 (uuidS (y1.at 0).s) (uuidS_len _) (by simp only [List.length_append,List.length_nil];omega)
   rw [iK,← jX] at hu3
   refine (hu3).mono ?_
   rintro r4 w4 hc4
   have ha4:=ha3.trans hc4
   have hB4:B≤w4.heap.size:=Nat.le_trans hB ha4.upd.size
   have hv_4:=ha4.upd.blk_some hv hdv
   have jI:=ha4.upd.blk_some hx1 bM
   repeat ((first|refine qA rfl ?_|apply qB|refine qC rfl ?_|apply qD|apply qE|apply qF|apply qG|apply qH);try simp (disch:=(first|omega|(simp only [qI,qJ,qK]<;>omega)|exact qL _)) only [go_sem,↓reduceIte,n0,reduceCtorEq,n1,n2,n3,n4,n5,i0,i1,i2,i3,i4,i5,i6,i7,hv_4,jI,hni_0,bO,bP,bZ,cC,cD,cE,cH,cI,cJ,cM,bQ,bR,bU,bV,bW,bX,bY,bA,fze1_0_0,fze1_0_1,fze1_0_2,fze1_0_3,fze1_0_4,fze1_0_5,fze1_0_6,fze1_0_7,fze1_0_8,fze1_0_9,fze1_0_10,fze1_0_11,fze1_0_12,fze1_0_13,fze1_0_14,fze1_0_15,cO,aY,aX,aZ,b6,hI1,hN1,hS1])
   refine (AppendCompactNullableString_fn (ok:=okM) _ _ _ ha4.own hB4 _ (y1.at 1).null (y1.at 1).s (fT.keep (ha4.upd.keeps hd)) (ge1_1.text (.inl rfl)) (by simp only [List.length_append,List.length_nil];omega)).mono ?_
   rintro r5 w5 hc5
   rw [← dO] at hc5
   have ha5:=ha4.trans hc5
   have hB5:B≤w5.heap.size:=Nat.le_trans hB ha5.upd.size
   have hv_5:=ha5.upd.blk_some hv hdv
   have b7:=ha5.upd.blk_some hx1 bM
   repeat ((first|refine qA rfl ?_|apply qB|refine qC rfl ?_|apply qD|apply qE|apply qF|apply qG|apply qH);try simp (disch:=(first|omega|(simp only [qI,qJ,qK]<;>omega)|exact qL _)) only [go_sem,↓reduceIte,n0,reduceCtorEq,n1,n2,n3,n4,n5,i0,i1,i2,i3,i4,i5,i6,i7,hv_5,b7,hni_0,bO,bP,bZ,cC,cD,cE,cH,cI,cJ,cM,bQ,bR,bU,bV,bW,bX,bY,bA,fze1_0_0,fze1_0_1,fze1_0_2,fze1_0_3,fze1_0_4,fze1_0_5,fze1_0_6,fze1_0_7,fze1_0_8,fze1_0_9,fze1_0_10,fze1_0_11,fze1_0_12,fze1_0_13,fze1_0_14,fze1_0_15,cO,aY,aX,aZ,b6,hI1,hN1,hS1])
   have lH:TagsM (OkS okM w.heap.size) w5 (.map qme1) y1.u:=(e7.weaken fun b h1 h2=>⟨h2,h1⟩).keep (ha5.upd.keeps fun b hb hk=>hd b hb hk.1)
   refine (TagsLen_fn (ok:=OkS okM w.heap.size) w5 b7 (to:=o1+(j1 * 18+17)) bA lH).mono ?_
   rintro _ w5' ⟨rfl,rfl⟩
   have n8:y1.u.length≤32767:=dL.1
   have ew5:IntKind.u32.wrap (y1.u.length:Int)=y1.u.length:=u32_wrap (by omega)
   have ez5:IntKind.u32.wrap (0+(y1.u.length:Int))=y1.u.length:=by rw [Int.zero_add,u32_wrap (by omega)]
   simp (disch:=(first|omega|(simp only [qI,qJ,qK]<;>omega)|exact qL _)) only [go_sem,↓reduceIte,n0,reduceCtorEq,n1,n2,n3,n4,n5,i0,i1,i2,i3,i4,i5,i6,i7,hv_5,b7,hni_0,bO,bP,bZ,cC,cD,cE,cH,cI,cJ,cM,bQ,bR,bU,bV,bW,bX,bY,bA,fze1_0_0,fze1_0_1,fze1_0_2,fze1_0_3,fze1_0_4,fze1_0_5,fze1_0_6,fze1_0_7,fze1_0_8,fze1_0_9,fze1_0_10,fze1_0_11,fze1_0_12,fze1_0_13,fze1_0_14,fze1_0_15,cO,aY,aX,aZ,b6,hI1,hN1,hS1,ew5,ez5]
   refine (AppendUvarint_fn _ _ _ ha5.own hB5 y1.u.length (by omega) (by simp only [List.length_append,List.length_nil];omega)).mono ?_
   rintro r6 w6 hc6
   rw [← iJ] at hc6
   have ha6:=ha5.trans hc6
   have hB6:B≤w6.heap.size:=Nat.le_trans hB ha6.upd.size
   have hv_6:=ha6.upd.blk_some hv hdv
   have dF:=ha6.upd.blk_some hx1 bM
   repeat ((first|refine qA rfl ?_|apply qB|refine qC rfl ?_|apply qD|apply qE|apply qF|apply qG|apply qH);try simp (disch:=(first|omega|(simp only [qI,qJ,qK]<;>omega)|exact qL _)) only [go_sem,↓reduceIte,n0,reduceCtorEq,n1,n2,n3,n4,n5,i0,i1,i2,i3,i4,i5,i6,i7,hv_6,dF,hni_0,bO,bP,bZ,cC,cD,cE,cH,cI,cJ,cM,bQ,bR,bU,bV,bW,bX,bY,bA,fze1_0_0,fze1_0_1,fze1_0_2,fze1_0_3,fze1_0_4,fze1_0_5,fze1_0_6,fze1_0_7,fze1_0_8,fze1_0_9,fze1_0_10,fze1_0_11,fze1_0_12,fze1_0_13,fze1_0_14,fze1_0_15,cO,aY,aX,aZ,b6,hI1,hN1,hS1])
   have jS:TagsM (OkS okM w.heap.size) w6 (.map qme1) y1.u:=(e7.weaken fun b h1 h2=>⟨h2,h1⟩).keep (ha6.upd.keeps fun b hb hk=>hd b hb hk.1)
   refine (AppendEach_fn (ok:=OkS okM w.heap.size) _ _ _ ha6.own hB6 dF (to:=o1+(j1 * 18+17)) bA jS (rising_keys dL) dL.1 (tags_small dL jS) (hdK ha6) (ownK ha6 (blk_lt hx1) bM) (by simp only [List.length_append,List.length_nil];omega)).mono ?_
   rintro r7 w7 hc7
   rw [← iI] at hc7
   have ha7:=ha6.trans hc7
   have hB7:B≤w7.heap.size:=Nat.le_trans hB ha7.upd.size
   have hv_7:=ha7.upd.blk_some hv hdv
   have dK:=ha7.upd.blk_some hx1 bM
   repeat ((first|refine qA rfl ?_|apply qB|refine qC rfl ?_|apply qD|apply qE|apply qF|apply qG|apply qH);try simp (disch:=(first|omega|(simp only [qI,qJ,qK]<;>omega)|exact qL _)) only [go_sem,↓reduceIte,n0,reduceCtorEq,n1,n2,n3,n4,n5,i0,i1,i2,i3,i4,i5,i6,i7,aY,aX,aZ,b6,hI1,hN1,hS1])
   refine ⟨⟨j1+1,_,by omega,rfl,rfl,ha7.eqs ?_⟩,?_⟩
   ·rw [dP,List.flatMap_append,List.flatMap_cons,List.flatMap_nil,List.append_nil,← dN,dM];simp only [List.append_assoc,List.append_nil,List.nil_append]
   ·simp only [RowKit.intOf];omega
  ·have fO:j1=L_0.length:=by omega
   subst fO
   rw [List.take_length,← hXE_0] at ha2
   repeat ((first|refine qA rfl ?_|apply qB|refine qC rfl ?_|apply qD|apply qE|apply qF|apply qG|apply qH);try simp (disch:=(first|omega|(simp only [qI,qJ,qK]<;>omega)|exact qL _)) only [go_sem,↓reduceIte,n0,reduceCtorEq,n1,n2,n3,n4,n5,i0,i1,i2,i3,i4,i5,i6,i7,hI1,hN1])
   exact ⟨_,aY,aX,aZ,b6,ha2⟩
 ·rintro ρ w8 ⟨r8,bB,bC,bD,bE,ha8⟩
  have hB8:B≤w8.heap.size:=Nat.le_trans hB ha8.upd.size
  have hv_8:=ha8.upd.blk_some hv hdv
  repeat ((first|refine qA rfl ?_|apply qB|refine qC rfl ?_|apply qD|apply qE|apply qF|apply qG|apply qH);try simp (disch:=(first|omega|(simp only [qI,qJ,qK]<;>omega)|exact qL _)) only [go_sem,↓reduceIte,n0,reduceCtorEq,n1,n2,n3,n4,n5,i0,i1,i2,i3,i4,i5,i6,i7,hv_8,hni_0,bB,bC,bD,bE])
  refine (AppendBool_fn _ _ _ ha8.own hB8 _ (by simp only [List.length_append,List.length_nil];omega)).mono ?_
  rintro r9 w9 hc9
  rw [← hXX_1] at hc9
  have ha9:=ha8.trans hc9
  have hB9:B≤w9.heap.size:=Nat.le_trans hB ha9.upd.size
  have hv_9:=ha9.upd.blk_some hv hdv
  repeat ((first|refine qA rfl ?_|apply qB|refine qC rfl ?_|apply qD|apply qE|apply qF|apply qG|apply qH);try simp (disch:=(first|omega|(simp only [qI,qJ,qK]<;>omega)|exact qL _)) only [go_sem,↓reduceIte,n0,reduceCtorEq,n1,n2,n3,n4,n5,i0,i1,i2,i3,i4,i5,i6,i7,hv_9,hni_0,bB,bC,bD,bE])
  refine (AppendBool_fn _ _ _ ha9.own hB9 _ (by simp only [List.length_append,List.length_nil];omega)).mono ?_
  rintro r10 w10 iL
  rw [← hXX_2] at iL
  have eE:=ha9.trans iL
  have jN:B≤w10.heap.size:=Nat.le_trans hB eE.upd.size
  have hv_10:=eE.upd.blk_some hv hdv
  repeat ((first|refine qA rfl ?_|apply qB|refine qC rfl ?_|apply qD|apply qE|apply qF|apply qG|apply qH);try simp (disch:=(first|omega|(simp only [qI,qJ,qK]<;>omega)|exact qL _)) only [go_sem,↓reduceIte,n0,reduceCtorEq,n1,n2,n3,n4,n5,i0,i1,i2,i3,i4,i5,i6,i7,hv_10,hni_0,bB,bC,bD,bE])
  refine (AppendBool_fn _ _ _ eE.own jN _ (by simp only [List.length_append,List.length_nil];omega)).mono ?_
  rintro r11 w11 iM
  rw [← hXX_3] at iM
  have eI:=eE.trans iM
  have kN:B≤w11.heap.size:=Nat.le_trans hB eI.upd.size
  have hv_11:=eI.upd.blk_some hv hdv
  repeat ((first|refine qA rfl ?_|apply qB|refine qC rfl ?_|apply qD|apply qE|apply qF|apply qG|apply qH);try simp (disch:=(first|omega|(simp only [qI,qJ,qK]<;>omega)|exact qL _)) only [go_sem,↓reduceIte,n0,reduceCtorEq,n1,n2,n3,n4,n5,i0,i1,i2,i3,i4,i5,i6,i7,hv_11,hni_0,bB,bC,bD,bE])
  have kR:TagsM (OkS okM w.heap.size) w11 (.map qm) t.u:=(hT.weaken fun b h1 h2=>⟨h2,h1⟩).keep (eI.upd.keeps fun b hb hk=>hd b hb hk.1)
  refine (TagsLen_fn (ok:=OkS okM w.heap.size) w11 hv_11 (to:=5) (show (#[.int .i16 ver,.slice ab_0 L_0.length ac_0,.bool (decide ((t.at 1).n % 2=1)),.bool (decide ((t.at 2).n % 2=1)),.bool (decide ((t.at 3).n % 2=1)),.map qm]:Array Value)[5]? = some (.map qm) from rfl) kR).mono ?_
  rintro _ w11' ⟨rfl,rfl⟩
  have nD:t.u.length≤32767:=hfu.1
  have ew11:IntKind.u32.wrap (t.u.length:Int)=t.u.length:=u32_wrap (by omega)
  have ez11:IntKind.u32.wrap (0+(t.u.length:Int))=t.u.length:=by rw [Int.zero_add,u32_wrap (by omega)]
  simp (disch:=(first|omega|(simp only [qI,qJ,qK]<;>omega)|exact qL _)) only [go_sem,↓reduceIte,n0,reduceCtorEq,n1,n2,n3,n4,n5,i0,i1,i2,i3,i4,i5,i6,i7,hv_11,hni_0,bB,bC,bD,bE,ew11,ez11]
  refine (AppendUvarint_fn _ _ _ eI.own kN t.u.length (by omega) (by simp only [List.length_append,List.length_nil];omega)).mono ?_
  rintro r12 w12 jY
  rw [← hXU] at jY
  have gG:=eI.trans jY
  have lT:B≤w12.heap.size:=Nat.le_trans hB gG.upd.size
  have hv_12:=gG.upd.blk_some hv hdv
  repeat ((first|refine qA rfl ?_|apply qB|refine qC rfl ?_|apply qD|apply qE|apply qF|apply qG|apply qH);try simp (disch:=(first|omega|(simp only [qI,qJ,qK]<;>omega)|exact qL _)) only [go_sem,↓reduceIte,n0,reduceCtorEq,n1,n2,n3,n4,n5,i0,i1,i2,i3,i4,i5,i6,i7,hv_12,hni_0,bB,bC,bD,bE])
  have lZ:TagsM (OkS okM w.heap.size) w12 (.map qm) t.u:=(hT.weaken fun b h1 h2=>⟨h2,h1⟩).keep (gG.upd.keeps fun b hb hk=>hd b hb hk.1)
  refine (AppendEach_fn (ok:=OkS okM w.heap.size) _ _ _ gG.own lT hv_12 (to:=5) (show (#[.int .i16 ver,.slice ab_0 L_0.length ac_0,.bool (decide ((t.at 1).n % 2=1)),.bool (decide ((t.at 2).n % 2=1)),.bool (decide ((t.at 3).n % 2=1)),.map qm]:Array Value)[5]? = some (.map qm) from rfl) lZ (rising_keys hfu) hfu.1 (tags_small hfu lZ) (hdK gG) (ownK gG (blk_lt hv) hdv) (by simp only [List.length_append,List.length_nil];omega)).mono ?_
  rintro r13 w13 m9
  rw [← hXT] at m9
  have lJ:=gG.trans m9
  have nA:B≤w13.heap.size:=Nat.le_trans hB lJ.upd.size
  have hv_13:=lJ.upd.blk_some hv hdv
  repeat ((first|refine qA rfl ?_|apply qB|refine qC rfl ?_|apply qD|apply qE|apply qF|apply qG|apply qH);try simp (disch:=(first|omega|(simp only [qI,qJ,qK]<;>omega)|exact qL _)) only [go_sem,↓reduceIte,n0,reduceCtorEq,n1,n2,n3,n4,n5,i0,i1,i2,i3,i4,i5,i6,i7,hv_13,hni_0,bB,bC,bD,bE])
  refine lJ.eqs ?_
  rw [hP];simp only [List.append_assoc,List.append_nil,List.nil_append]
end Ms

