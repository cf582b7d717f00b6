/- A part of the proof: see the last text. -/
import Derived.Test.YtdpckciobjkobaaGreatDoorC06
import Derived.Test.YtdpckciobjkobaaGreatDoorC07
import Derived.Test.YtdpckciobjkobaaGreatDoorC10
import Derived.Test.YtdpckciobjkobaaGreatDoorC11
import Derived.Test.YtdpckciobjkobaaGreatDoorDeleteACLsRequestP0
import Derived.Test.YtdpckciobjkobaaGreatDoorDeleteACLsRequestP2
set_option linter.unusedSimpArgs false
set_option linter.unusedVariables false
namespace Ms
open Go.World renaming size_alloc → qI
open Ms renaming size_wr → qJ,size_drew → qK,not_noB → qL
open W renaming seqR → qA,seq → qB,regR → qC,condK → qD,block → qE,skip → qF,ret → qG,exit → qH
open Nat renaming reduceEqDiff → n0,reduceAdd → n1,reduceMul → n2,reduceSub → n3,reduceLT → n4,reduceLeDiff → n5
open Int renaming reduceEq → i0,reduceLT → i1,reduceLE → i2,reduceNeg → i3,reduceAdd → i4,reduceSub → i5,reduceMul → i6,reduceToNat → i7
set_option maxRecDepth 8000
open Go Go.Proofs Go.Shelf
attribute [local congr] W_congr WPsq_congr WPp_congr optK_congr addrK_congr intK_congr boolK_congr sliceK_congr tupleK_congr funcK_congr Fn_congr rawK_congr takeK_congr stepK_congr convK_congr aggK_congr

set_option maxHeartbeats 4000000 in
theorem appDeleteACLsRequest_1 {d B : Nat} {okM : Blocks} {ver : Int} (hlo : 1 ≤ ver) (hhi : ver ≤ 1) (t : Tree) (cells : List Value) (v : Value) (s : List UInt8) (w : World) {vb : Nat} (ho : OwnBy 5 B w v s) (hB : B ≤ w.heap.size) (hvb : blk w vb = some ((.int .i16 ver :: cells).toArray,84,(0,0)))
    (hR : RepS true (d + 2) fs_DeleteACLsRequest okM w t cells) (hfit : FitW ver (d + 2) fs_DeleteACLsRequest t) (hd : ∀ b,b < w.heap.size → okM b → ¬ ownB v b) (hdv : ¬ ownB v vb) (hlen : s.length + (partS (d + 2) fs_DeleteACLsRequest ver false t).length ≤ 2 ^ 41) :
    Fn Tryz.prog 187 #[.pointer (some ⟨vb,0,none⟩),v] w fun r w' => AppR 5 B w v s (partS (d + 2) fs_DeleteACLsRequest ver false t) r w' := by
  obtain ⟨⟨g_0,-⟩,hfu⟩ := hfit
  replace g_0 : hasS fDeleteACLsRequest_0 ver = true → FitWF (FitW ver (d + 1)) ver fDeleteACLsRequest_0 (t.at 0) := g_0
  have hh_0 : hasS fDeleteACLsRequest_0 ver = true := hasS_t (by show (0 : Int) ≤ ver;omega) (by show (-1 : Int) < 0 ∨ ver ≤ (-1 : Int);omega)
  replace g_0 := g_0 hh_0
  obtain ⟨cs,q,hcs,hL,hT⟩ := hR.inv
  obtain ⟨c_0,e_0,rfl,h_0,rfl⟩ := hL
  replace h_0 : RepF (RepS true (d + 1)) (szS true (d + 1)) fDeleteACLsRequest_0 okM w (t.at 0) c_0 := h_0
  obtain ⟨p_0,rfl,hs_0⟩ := RepF_listW g_0 rfl (by decide) h_0
  obtain ⟨ab_0,ac_0,rfl,_⟩ := SlR.shape hs_0
  have hgl_0 := g_0.list rfl
  have hll_0 := hgl_0.1
  obtain ⟨qm,rfl⟩ := hT.shape
  have hv : blk w vb = some (#[.int .i16 ver,.slice ab_0 (t.at 0).l.length ac_0,.map qm],84,(0,0)) := by rw [hvb,hcs];rfl
  clear hvb hcs
  obtain ⟨XL_0,hXL_0⟩ : ∃ X,X = fixedS (t.at 0).l.length 4 := ⟨_,rfl⟩
  obtain ⟨XE_0,hXE_0⟩ : ∃ X,X = (t.at 0).l.flatMap (fun x => partS (d + 1) fs_X0 ver false x) := ⟨_,rfl⟩
  have hP : partS (d + 2) fs_DeleteACLsRequest ver false t = (XL_0 ++ XE_0) ++ [] := partS_no (plainL_has (by decide) hh_0 ((fieldS_list_f (g := (fun x => partS (d + 1) fs_X0 ver false x)) g_0 rfl (by decide) (fun x _ => valueS_part)).trans (by rw [hXL_0,hXE_0])) rfl)
  rw [hP] at hlen
  simp only [List.length_append,List.length_nil] at hlen
  have hdK : ∀ {r : Value} {w' : World} {add : List UInt8},AppR 5 B w v s add r w' → ∀ b,b < w'.heap.size → OkS okM w.heap.size b → ¬ ownB r b := fun h b _ hk ho => (h.frame b ho).elim (hd b hk.2 hk.1) (fun h => by have := hk.2;omega)
  have ownK : ∀ {r : Value} {w' : World} {add : List UInt8} {b : Nat},AppR 5 B w v s add r w' → b < w.heap.size → ¬ ownB v b → ¬ ownB r b := fun h hb hn ho => (h.frame _ ho).elim hn (fun h => by omega)
  have ha0 : AppR 5 B w v s [] v w := AppR.refl ho
  obtain ⟨w0,hw0⟩ : ∃ w0,w0 = w := ⟨_,rfl⟩
  have hB0 := hB
  have hv_0 := hv
  refine fn_of_W Tryz.func187 rfl Tryz.results187 Tryz.ntmps187 rfl ?_
  repeat ((first | refine qA rfl ?_|refine qB ?_|refine qC rfl ?_|refine qD ?_|refine qE ?_|refine qF ?_|refine qG ?_|refine qH ?_);try simp (maxSteps:=1000000)(disch:=(first|omega|(simp only [qI,qJ,qK]<;>omega)|exact qL _)) only [go_sem,↓reduceIte,n0,reduceCtorEq,n1,n2,n3,n4,n5,i0,i1,i2,i3,i4,i5,i6,i7,hv_0])
  refine (AppendArrayLen_fn _ _ _ ha0.own hB0 (t.at 0).l.length hll_0 (by simp only [List.length_append,List.length_nil];omega)).mono ?_
  rintro r1 w1 hc1
  rw [← hXL_0] at hc1
  have ha1 := ha0.trans hc1
  have hB1 : B ≤ w1.heap.size := Nat.le_trans hB ha1.upd.size
  have hv_1 := ha1.upd.blk_some hv hdv
  repeat ((first | refine qA rfl ?_|refine qB ?_|refine qC rfl ?_|refine qD ?_|refine qE ?_|refine qF ?_|refine qG ?_|refine qH ?_);try simp (maxSteps:=1000000)(disch:=(first|omega|(simp only [qI,qJ,qK]<;>omega)|exact qL _)) only [go_sem,↓reduceIte,n0,reduceCtorEq,n1,n2,n3,n4,n5,i0,i1,i2,i3,i4,i5,i6,i7,hv_1])
  have hadd1 := ha1
  refine W.exitJ 0 (fun ρ w' => ∃ r,ρ 1 = r ∧ ρ 0 = .pointer (some ⟨vb,0,none⟩) ∧ ρ 5 = .int .i16 ver ∧ ρ 6 = .bool false ∧ AppR 5 B w v s (([] ++ XL_0) ++ XE_0) r w')
    (W.loop (fun ρ w' => ∃ (j : Nat) (r : Value),j ≤ (t.at 0).l.length ∧ ρ 44 = .int .i64 j ∧ ρ 43 = .int .i64 (t.at 0).l.length ∧ ρ 7 = .slice ab_0 (t.at 0).l.length ac_0 ∧ ρ 1 = r ∧ ρ 0 = .pointer (some ⟨vb,0,none⟩) ∧ ρ 5 = .int .i16 ver ∧ ρ 6 = .bool false ∧ AppR 5 B w v s (([] ++ XL_0) ++ ((t.at 0).l.take j).flatMap (fun x => partS (d + 1) fs_X0 ver false x)) r w')
      (fun ρ _ => (t.at 0).l.length - (RowKit.intOf (ρ 44)).toNat) ?_ ?_) ?_
  · refine ⟨0,_,Nat.zero_le _,?_,?_,?_,?_,?_,?_,?_,ha1.eqs (by rw [List.take_zero,List.flatMap_nil,List.append_nil])⟩ <;> simp (maxSteps:=1000000)(disch:=(first|omega|(simp only [qI,qJ,qK]<;>omega)|exact qL _)) only [go_sem,↓reduceIte,n0,reduceCtorEq,n1,n2,n3,n4,n5,i0,i1,i2,i3,i4,i5,i6,i7]
    all_goals rfl
  · rintro ρ w2 ⟨j1,r2,hj1,hI1,hN1,hS1,hr1_1,hr1_0,hr1_5,hr1_6,ha2⟩
    have hB2 : B ≤ w2.heap.size := Nat.le_trans hB ha2.upd.size
    have hv_2 := ha2.upd.blk_some hv hdv
    by_cases hlt1 : j1 < (t.at 0).l.length
    · obtain ⟨_,b1,o1,x1,ce1,hb1,hok1,hx1,hbl1,hxs1,hxe1,hq1,hRe1⟩ := SlR.get (size := 8) (by decide) hs_0 hlt1
      subst hb1
      have hcat1 : (t.at 0).l.take (j1 + 1) = (t.at 0).l.take j1 ++ [(t.at 0).l[j1]] := List.take_succ_eq_append_getElem hlt1
      have htl1 := take_flatMap_len (t.at 0).l (fun x => partS (d + 1) fs_X0 ver false x) (j1 + 1)
      rw [← hXE_0,hcat1,List.flatMap_append,List.flatMap_cons,List.flatMap_nil,List.append_nil] at htl1
      have hge1 := hgl_0.2 _ (List.getElem_mem hlt1)
      generalize (t.at 0).l[j1] = y1 at *
      have hnx1 := hd b1 hbl1 hok1
      obtain ⟨T1,hTT1⟩ : ∃ T,T = ((t.at 0).l.take j1).flatMap (fun x => partS (d + 1) fs_X0 ver false x) := ⟨_,rfl⟩
      rw [← hTT1] at ha2 htl1
      have hx1_2 := ha2.upd.blk_some hx1 hnx1
      replace hRe1 : RepS true (d + 1) fs_X0 okM w y1 ce1 := Rep1_part.1 hRe1
      have hfe1 : FitW ver (d + 1) fs_X0 y1 := hge1.2 rfl
      obtain ⟨⟨ge1_0,ge1_1,ge1_2,ge1_3,ge1_4,ge1_5,ge1_6,-⟩,hfue1⟩ := hfe1
      replace ge1_0 : hasS fX0_0 ver = true → FitWF (FitW ver d) ver fX0_0 (y1.at 0) := ge1_0
      have hhe1_0 : hasS fX0_0 ver = true := hasS_t (by show (0 : Int) ≤ ver;omega) (by show (-1 : Int) < 0 ∨ ver ≤ (-1 : Int);omega)
      replace ge1_0 := ge1_0 hhe1_0
      replace ge1_1 : hasS fX0_1 ver = true → FitWF (FitW ver d) ver fX0_1 (y1.at 1) := ge1_1
      have hhe1_1 : hasS fX0_1 ver = true := hasS_t (by show (0 : Int) ≤ ver;omega) (by show (-1 : Int) < 0 ∨ ver ≤ (-1 : Int);omega)
      replace ge1_1 := ge1_1 hhe1_1
      replace ge1_2 : hasS fX0_2 ver = true → FitWF (FitW ver d) ver fX0_2 (y1.at 2) := ge1_2
      have hhe1_2 : hasS fX0_2 ver = true := hasS_t (by show (1 : Int) ≤ ver;omega) (by show (-1 : Int) < 0 ∨ ver ≤ (-1 : Int);omega)
      replace ge1_2 := ge1_2 hhe1_2
      replace ge1_3 : hasS fX0_3 ver = true → FitWF (FitW ver d) ver fX0_3 (y1.at 3) := ge1_3
      have hhe1_3 : hasS fX0_3 ver = true := hasS_t (by show (0 : Int) ≤ ver;omega) (by show (-1 : Int) < 0 ∨ ver ≤ (-1 : Int);omega)
      replace ge1_3 := ge1_3 hhe1_3
      replace ge1_4 : hasS fX0_4 ver = true → FitWF (FitW ver d) ver fX0_4 (y1.at 4) := ge1_4
      have hhe1_4 : hasS fX0_4 ver = true := hasS_t (by show (0 : Int) ≤ ver;omega) (by show (-1 : Int) < 0 ∨ ver ≤ (-1 : Int);omega)
      replace ge1_4 := ge1_4 hhe1_4
      replace ge1_5 : hasS fX0_5 ver = true → FitWF (FitW ver d) ver fX0_5 (y1.at 5) := ge1_5
      have hhe1_5 : hasS fX0_5 ver = true := hasS_t (by show (0 : Int) ≤ ver;omega) (by show (-1 : Int) < 0 ∨ ver ≤ (-1 : Int);omega)
      replace ge1_5 := ge1_5 hhe1_5
      replace ge1_6 : hasS fX0_6 ver = true → FitWF (FitW ver d) ver fX0_6 (y1.at 6) := ge1_6
      have hhe1_6 : hasS fX0_6 ver = true := hasS_t (by show (0 : Int) ≤ ver;omega) (by show (-1 : Int) < 0 ∨ ver ≤ (-1 : Int);omega)
      replace ge1_6 := ge1_6 hhe1_6
      obtain ⟨cse1,qe1,hcse1,hLe1,hTe1⟩ := hRe1.inv
      obtain ⟨ce1_0,ee1_0,rfl,he1_0,ce1_1,ee1_1,rfl,he1_1,ce1_2,ee1_2,rfl,he1_2,ce1_3,ee1_3,rfl,he1_3,ce1_4,ee1_4,rfl,he1_4,ce1_5,ee1_5,rfl,he1_5,ce1_6,ee1_6,rfl,he1_6,rfl⟩ := hLe1
      replace he1_0 : RepF (RepS true d) (szS true d) fX0_0 okM w (y1.at 0) ce1_0 := he1_0
      replace he1_1 : RepF (RepS true d) (szS true d) fX0_1 okM w (y1.at 1) ce1_1 := he1_1
      replace he1_2 : RepF (RepS true d) (szS true d) fX0_2 okM w (y1.at 2) ce1_2 := he1_2
      replace he1_3 : RepF (RepS true d) (szS true d) fX0_3 okM w (y1.at 3) ce1_3 := he1_3
      replace he1_4 : RepF (RepS true d) (szS true d) fX0_4 okM w (y1.at 4) ce1_4 := he1_4
      replace he1_5 : RepF (RepS true d) (szS true d) fX0_5 okM w (y1.at 5) ce1_5 := he1_5
      replace he1_6 : RepF (RepS true d) (szS true d) fX0_6 okM w (y1.at 6) ce1_6 := he1_6
      obtain rfl := (RepF_num (by decide)).1 he1_0
      obtain ⟨pe1_1,rfl,hpe1_1⟩ := (RepF_ptr rfl (by decide)).1 he1_1
      obtain rfl := (RepF_num (by decide)).1 he1_2
      obtain ⟨pe1_3,rfl,hpe1_3⟩ := (RepF_ptr rfl (by decide)).1 he1_3
      obtain ⟨pe1_4,rfl,hpe1_4⟩ := (RepF_ptr rfl (by decide)).1 he1_4
      obtain rfl := (RepF_num (by decide)).1 he1_5
      obtain rfl := (RepF_num (by decide)).1 he1_6
      obtain ⟨qme1,rfl⟩ := hTe1.shape
      subst hcse1
      have hq1_0 : x1.1[o1 + j1 * 8]? = some (.int .i8 (IntKind.i8.wrap (y1.at 0).n)) := hq1 0 (by decide)
      have hq1_1 : x1.1[o1 + (j1 * 8 + 1)]? = some (pe1_1) := hq1 1 (by decide)
      have hq1_2 : x1.1[o1 + (j1 * 8 + 2)]? = some (.int .i8 (IntKind.i8.wrap (y1.at 2).n)) := hq1 2 (by decide)
      have hq1_3 : x1.1[o1 + (j1 * 8 + 3)]? = some (pe1_3) := hq1 3 (by decide)
      have hq1_4 : x1.1[o1 + (j1 * 8 + 4)]? = some (pe1_4) := hq1 4 (by decide)
      have hq1_5 : x1.1[o1 + (j1 * 8 + 5)]? = some (.int .i8 (IntKind.i8.wrap (y1.at 5).n)) := hq1 5 (by decide)
      have hq1_6 : x1.1[o1 + (j1 * 8 + 6)]? = some (.int .i8 (IntKind.i8.wrap (y1.at 6).n)) := hq1 6 (by decide)
      have hq1_7 : x1.1[o1 + (j1 * 8 + 7)]? = some (.map qme1) := hq1 7 (by decide)
      obtain ⟨Xe1_0,hXXe1_0⟩ : ∃ X,X = fixedS (y1.at 0).n 1 := ⟨_,rfl⟩
      obtain ⟨Xe1_1,hXXe1_1⟩ : ∃ X,X = if (y1.at 1).null = true then fixedS (-1) 2 else fixedS (y1.at 1).s.length 2 ++ (y1.at 1).s := ⟨_,rfl⟩
      obtain ⟨Xe1_2,hXXe1_2⟩ : ∃ X,X = fixedS (y1.at 2).n 1 := ⟨_,rfl⟩
      obtain ⟨Xe1_3,hXXe1_3⟩ : ∃ X,X = if (y1.at 3).null = true then fixedS (-1) 2 else fixedS (y1.at 3).s.length 2 ++ (y1.at 3).s := ⟨_,rfl⟩
      obtain ⟨Xe1_4,hXXe1_4⟩ : ∃ X,X = if (y1.at 4).null = true then fixedS (-1) 2 else fixedS (y1.at 4).s.length 2 ++ (y1.at 4).s := ⟨_,rfl⟩
      obtain ⟨Xe1_5,hXXe1_5⟩ : ∃ X,X = fixedS (y1.at 5).n 1 := ⟨_,rfl⟩
      obtain ⟨Xe1_6,hXXe1_6⟩ : ∃ X,X = fixedS (y1.at 6).n 1 := ⟨_,rfl⟩
      have hPe1 : partS (d + 1) fs_X0 ver false y1 = Xe1_0 ++ (Xe1_1 ++ (Xe1_2 ++ (Xe1_3 ++ (Xe1_4 ++ (Xe1_5 ++ (Xe1_6 ++ [])))))) := partS_no (plainL_has (by decide) hhe1_0 ((fieldS_num 1 rfl (by decide)).trans hXXe1_0.symm) (plainL_has (by decide) hhe1_1 ((fieldS_ptr_f ge1_1 rfl (by decide)).trans hXXe1_1.symm) (plainL_has (by decide) hhe1_2 ((fieldS_num 1 rfl (by decide)).trans hXXe1_2.symm) (plainL_has (by decide) hhe1_3 ((fieldS_ptr_f ge1_3 rfl (by decide)).trans hXXe1_3.symm) (plainL_has (by decide) hhe1_4 ((fieldS_ptr_f ge1_4 rfl (by decide)).trans hXXe1_4.symm) (plainL_has (by decide) hhe1_5 ((fieldS_num 1 rfl (by decide)).trans hXXe1_5.symm) (plainL_has (by decide) hhe1_6 ((fieldS_num 1 rfl (by decide)).trans hXXe1_6.symm) rfl)))))))
      rw [hPe1] at htl1
      simp only [List.length_append,List.length_nil] at htl1
      repeat ((first | refine qA rfl ?_|refine qB ?_|refine qC rfl ?_|refine qD ?_|refine qE ?_|refine qF ?_|refine qG ?_|refine qH ?_);try simp (maxSteps:=1000000)(disch:=(first|omega|(simp only [qI,qJ,qK]<;>omega)|exact qL _)) only [go_sem,↓reduceIte,n0,reduceCtorEq,n1,n2,n3,n4,n5,i0,i1,i2,i3,i4,i5,i6,i7,hv_2,hx1_2,Int.toNat_natCast,Nat.mul_one,hq1_0,hq1_1,hq1_2,hq1_3,hq1_4,hq1_5,hq1_6,hq1_7,hr1_1,hr1_0,hr1_5,hr1_6,hI1,hN1,hS1])
      refine (AppendInt8_fn _ _ _ ha2.own hB2 _ (by simp only [List.length_append,List.length_nil];omega)).mono ?_
      rintro r3 w3 hc3
      rw [wrap8,← hXXe1_0] at hc3
      have ha3 := ha2.trans hc3
      have hB3 : B ≤ w3.heap.size := Nat.le_trans hB ha3.upd.size
      have hv_3 := ha3.upd.blk_some hv hdv
      have hx1_3 := ha3.upd.blk_some hx1 hnx1
      repeat ((first | refine qA rfl ?_|refine qB ?_|refine qC rfl ?_|refine qD ?_|refine qE ?_|refine qF ?_|refine qG ?_|refine qH ?_);try simp (maxSteps:=1000000)(disch:=(first|omega|(simp only [qI,qJ,qK]<;>omega)|exact qL _)) only [go_sem,↓reduceIte,n0,reduceCtorEq,n1,n2,n3,n4,n5,i0,i1,i2,i3,i4,i5,i6,i7,hv_3,hx1_3,Int.toNat_natCast,Nat.mul_one,hq1_0,hq1_1,hq1_2,hq1_3,hq1_4,hq1_5,hq1_6,hq1_7,hr1_1,hr1_0,hr1_5,hr1_6,hI1,hN1,hS1])
      refine (AppendNullableString_fn (ok := okM) _ _ _ ha3.own hB3 _ (y1.at 1).null (y1.at 1).s (hpe1_1.keep (ha3.upd.keeps hd)) (ge1_1.text (.inl rfl)) (by simp only [List.length_append,List.length_nil];omega)).mono ?_
      rintro r4 w4 hc4
      rw [← hXXe1_1] at hc4
      have ha4 := ha3.trans hc4
      have hB4 : B ≤ w4.heap.size := Nat.le_trans hB ha4.upd.size
      have hv_4 := ha4.upd.blk_some hv hdv
      have hx1_4 := ha4.upd.blk_some hx1 hnx1
      repeat ((first | refine qA rfl ?_|refine qB ?_|refine qC rfl ?_|refine qD ?_|refine qE ?_|refine qF ?_|refine qG ?_|refine qH ?_);try simp (maxSteps:=1000000)(disch:=(first|omega|(simp only [qI,qJ,qK]<;>omega)|exact qL _)) only [go_sem,↓reduceIte,n0,reduceCtorEq,n1,n2,n3,n4,n5,i0,i1,i2,i3,i4,i5,i6,i7,hv_4,hx1_4,Int.toNat_natCast,Nat.mul_one,hq1_0,hq1_1,hq1_2,hq1_3,hq1_4,hq1_5,hq1_6,hq1_7,hr1_1,hr1_0,hr1_5,hr1_6,hI1,hN1,hS1])
      refine (AppendInt8_fn _ _ _ ha4.own hB4 _ (by simp only [List.length_append,List.length_nil];omega)).mono ?_
      rintro r5 w5 hc5
      rw [wrap8,← hXXe1_2] at hc5
      have ha5 := ha4.trans hc5
      have hB5 : B ≤ w5.heap.size := Nat.le_trans hB ha5.upd.size
      have hv_5 := ha5.upd.blk_some hv hdv
      have hx1_5 := ha5.upd.blk_some hx1 hnx1
      repeat ((first | refine qA rfl ?_|refine qB ?_|refine qC rfl ?_|refine qD ?_|refine qE ?_|refine qF ?_|refine qG ?_|refine qH ?_);try simp (maxSteps:=1000000)(disch:=(first|omega|(simp only [qI,qJ,qK]<;>omega)|exact qL _)) only [go_sem,↓reduceIte,n0,reduceCtorEq,n1,n2,n3,n4,n5,i0,i1,i2,i3,i4,i5,i6,i7,hv_5,hx1_5,Int.toNat_natCast,Nat.mul_one,hq1_0,hq1_1,hq1_2,hq1_3,hq1_4,hq1_5,hq1_6,hq1_7,hr1_1,hr1_0,hr1_5,hr1_6,hI1,hN1,hS1])
      refine (AppendNullableString_fn (ok := okM) _ _ _ ha5.own hB5 _ (y1.at 3).null (y1.at 3).s (hpe1_3.keep (ha5.upd.keeps hd)) (ge1_3.text (.inl rfl)) (by simp only [List.length_append,List.length_nil];omega)).mono ?_
      rintro r6 w6 hc6
      rw [← hXXe1_3] at hc6
      have ha6 := ha5.trans hc6
      have hB6 : B ≤ w6.heap.size := Nat.le_trans hB ha6.upd.size
      have hv_6 := ha6.upd.blk_some hv hdv
      have hx1_6 := ha6.upd.blk_some hx1 hnx1
      repeat ((first | refine qA rfl ?_|refine qB ?_|refine qC rfl ?_|refine qD ?_|refine qE ?_|refine qF ?_|refine qG ?_|refine qH ?_);try simp (maxSteps:=1000000)(disch:=(first|omega|(simp only [qI,qJ,qK]<;>omega)|exact qL _)) only [go_sem,↓reduceIte,n0,reduceCtorEq,n1,n2,n3,n4,n5,i0,i1,i2,i3,i4,i5,i6,i7,hv_6,hx1_6,Int.toNat_natCast,Nat.mul_one,hq1_0,hq1_1,hq1_2,hq1_3,hq1_4,hq1_5,hq1_6,hq1_7,hr1_1,hr1_0,hr1_5,hr1_6,hI1,hN1,hS1])
      refine (AppendNullableString_fn (ok := okM) _ _ _ ha6.own hB6 _ (y1.at 4).null (y1.at 4).s (hpe1_4.keep (ha6.upd.keeps hd)) (ge1_4.text (.inl rfl)) (by simp only [List.length_append,List.length_nil];omega)).mono ?_
      rintro r7 w7 hc7
      rw [← hXXe1_4] at hc7
      have ha7 := ha6.trans hc7
      have hB7 : B ≤ w7.heap.size := Nat.le_trans hB ha7.upd.size
      have hv_7 := ha7.upd.blk_some hv hdv
      have hx1_7 := ha7.upd.blk_some hx1 hnx1
      repeat ((first | refine qA rfl ?_|refine qB ?_|refine qC rfl ?_|refine qD ?_|refine qE ?_|refine qF ?_|refine qG ?_|refine qH ?_);try simp (maxSteps:=1000000)(disch:=(first|omega|(simp only [qI,qJ,qK]<;>omega)|exact qL _)) only [go_sem,↓reduceIte,n0,reduceCtorEq,n1,n2,n3,n4,n5,i0,i1,i2,i3,i4,i5,i6,i7,hv_7,hx1_7,Int.toNat_natCast,Nat.mul_one,hq1_0,hq1_1,hq1_2,hq1_3,hq1_4,hq1_5,hq1_6,hq1_7,hr1_1,hr1_0,hr1_5,hr1_6,hI1,hN1,hS1])
      refine (AppendInt8_fn _ _ _ ha7.own hB7 _ (by simp only [List.length_append,List.length_nil];omega)).mono ?_
      rintro r8 w8 hc8
      rw [wrap8,← hXXe1_5] at hc8
      have ha8 := ha7.trans hc8
      have hB8 : B ≤ w8.heap.size := Nat.le_trans hB ha8.upd.size
      have hv_8 := ha8.upd.blk_some hv hdv
      have hx1_8 := ha8.upd.blk_some hx1 hnx1
      repeat ((first | refine qA rfl ?_|refine qB ?_|refine qC rfl ?_|refine qD ?_|refine qE ?_|refine qF ?_|refine qG ?_|refine qH ?_);try simp (maxSteps:=1000000)(disch:=(first|omega|(simp only [qI,qJ,qK]<;>omega)|exact qL _)) only [go_sem,↓reduceIte,n0,reduceCtorEq,n1,n2,n3,n4,n5,i0,i1,i2,i3,i4,i5,i6,i7,hv_8,hx1_8,Int.toNat_natCast,Nat.mul_one,hq1_0,hq1_1,hq1_2,hq1_3,hq1_4,hq1_5,hq1_6,hq1_7,hr1_1,hr1_0,hr1_5,hr1_6,hI1,hN1,hS1])
      refine (AppendInt8_fn _ _ _ ha8.own hB8 _ (by simp only [List.length_append,List.length_nil];omega)).mono ?_
      rintro r9 w9 hc9
      rw [wrap8,← hXXe1_6] at hc9
      have ha9 := ha8.trans hc9
      have hB9 : B ≤ w9.heap.size := Nat.le_trans hB ha9.upd.size
      have hv_9 := ha9.upd.blk_some hv hdv
      have hx1_9 := ha9.upd.blk_some hx1 hnx1
      repeat ((first | refine qA rfl ?_|refine qB ?_|refine qC rfl ?_|refine qD ?_|refine qE ?_|refine qF ?_|refine qG ?_|refine qH ?_);try simp (maxSteps:=1000000)(disch:=(first|omega|(simp only [qI,qJ,qK]<;>omega)|exact qL _)) only [go_sem,↓reduceIte,n0,reduceCtorEq,n1,n2,n3,n4,n5,i0,i1,i2,i3,i4,i5,i6,i7,hr1_1,hr1_0,hr1_5,hr1_6,hI1,hN1,hS1])
      refine ⟨⟨j1 + 1,_,by omega,rfl,rfl,ha9.eqs ?_⟩,?_⟩
      · rw [hcat1,List.flatMap_append,List.flatMap_cons,List.flatMap_nil,List.append_nil,← hTT1,hPe1];simp only [List.append_assoc,List.append_nil,List.nil_append]
      · simp only [RowKit.intOf];omega
    · have hjl1 : j1 = (t.at 0).l.length := by omega
      subst hjl1
      rw [List.take_length,← hXE_0] at ha2
      repeat ((first | refine qA rfl ?_|refine qB ?_|refine qC rfl ?_|refine qD ?_|refine qE ?_|refine qF ?_|refine qG ?_|refine qH ?_);try simp (maxSteps:=1000000)(disch:=(first|omega|(simp only [qI,qJ,qK]<;>omega)|exact qL _)) only [go_sem,↓reduceIte,n0,reduceCtorEq,n1,n2,n3,n4,n5,i0,i1,i2,i3,i4,i5,i6,i7,hI1,hN1])
      exact ⟨_,hr1_1,hr1_0,hr1_5,hr1_6,ha2⟩
  · rintro ρ w10 ⟨r10,hr1_2,hr2_0,hr2_5,hr2_6,ha10⟩
    have hB10 : B ≤ w10.heap.size := Nat.le_trans hB ha10.upd.size
    have hv_10 := ha10.upd.blk_some hv hdv
    repeat ((first | refine qA rfl ?_|refine qB ?_|refine qC rfl ?_|refine qD ?_|refine qE ?_|refine qF ?_|refine qG ?_|refine qH ?_);try simp (maxSteps:=1000000)(disch:=(first|omega|(simp only [qI,qJ,qK]<;>omega)|exact qL _)) only [go_sem,↓reduceIte,n0,reduceCtorEq,n1,n2,n3,n4,n5,i0,i1,i2,i3,i4,i5,i6,i7,hv_10,hr1_2,hr2_0,hr2_5,hr2_6])
    refine ha10.eqs ?_
    rw [hP];simp only [List.append_assoc,List.append_nil,List.nil_append]
end Ms

namespace Ms
open Go.World renaming size_alloc → qI
open Ms renaming size_wr → qJ,size_drew → qK,not_noB → qL
open W renaming seqR → qA,seq → qB,regR → qC,condK → qD,block → qE,skip → qF,ret → qG,exit → qH
open Nat renaming reduceEqDiff → n0,reduceAdd → n1,reduceMul → n2,reduceSub → n3,reduceLT → n4,reduceLeDiff → n5
open Int renaming reduceEq → i0,reduceLT → i1,reduceLE → i2,reduceNeg → i3,reduceAdd → i4,reduceSub → i5,reduceMul → i6,reduceToNat → i7
set_option maxRecDepth 8000
open Go Go.Proofs Go.Shelf
attribute [local congr] W_congr WPsq_congr WPp_congr optK_congr addrK_congr intK_congr boolK_congr sliceK_congr tupleK_congr funcK_congr Fn_congr rawK_congr takeK_congr stepK_congr convK_congr aggK_congr

set_option maxHeartbeats 4000000 in
theorem appDeleteACLsRequest_2 {d B : Nat} {okM : Blocks} {ver : Int} (hlo : 2 ≤ ver) (hhi : ver ≤ 3) (t : Tree) (cells : List Value) (v : Value) (s : List UInt8) (w : World) {vb : Nat} (ho : OwnBy 5 B w v s) (hB : B ≤ w.heap.size) (hvb : blk w vb = some ((.int .i16 ver :: cells).toArray,84,(0,0)))
    (hR : RepS true (d + 2) fs_DeleteACLsRequest okM w t cells) (hfit : FitW ver (d + 2) fs_DeleteACLsRequest t) (hd : ∀ b,b < w.heap.size → okM b → ¬ ownB v b) (hdv : ¬ ownB v vb) (hlen : s.length + (partS (d + 2) fs_DeleteACLsRequest ver true t).length ≤ 2 ^ 41) :
    Fn Tryz.prog 187 #[.pointer (some ⟨vb,0,none⟩),v] w fun r w' => AppR 5 B w v s (partS (d + 2) fs_DeleteACLsRequest ver true t) r w' := by
  obtain ⟨⟨g_0,-⟩,hfu⟩ := hfit
  replace g_0 : hasS fDeleteACLsRequest_0 ver = true → FitWF (FitW ver (d + 1)) ver fDeleteACLsRequest_0 (t.at 0) := g_0
  have hh_0 : hasS fDeleteACLsRequest_0 ver = true := hasS_t (by show (0 : Int) ≤ ver;omega) (by show (-1 : Int) < 0 ∨ ver ≤ (-1 : Int);omega)
  replace g_0 := g_0 hh_0
  obtain ⟨cs,q,hcs,hL,hT⟩ := hR.inv
  obtain ⟨c_0,e_0,rfl,h_0,rfl⟩ := hL
  replace h_0 : RepF (RepS true (d + 1)) (szS true (d + 1)) fDeleteACLsRequest_0 okM w (t.at 0) c_0 := h_0
  obtain ⟨p_0,rfl,hs_0⟩ := RepF_listW g_0 rfl (by decide) h_0
  obtain ⟨ab_0,ac_0,rfl,_⟩ := SlR.shape hs_0
  have hgl_0 := g_0.list rfl
  have hll_0 := hgl_0.1
  obtain ⟨qm,rfl⟩ := hT.shape
  have hv : blk w vb = some (#[.int .i16 ver,.slice ab_0 (t.at 0).l.length ac_0,.map qm],84,(0,0)) := by rw [hvb,hcs];rfl
  clear hvb hcs
  obtain ⟨XL_0,hXL_0⟩ : ∃ X,X = uvarS ((t.at 0).l.length + 1) := ⟨_,rfl⟩
  obtain ⟨XE_0,hXE_0⟩ : ∃ X,X = (t.at 0).l.flatMap (fun x => partS (d + 1) fs_X0 ver true x) := ⟨_,rfl⟩
  obtain ⟨XU,hXU⟩ : ∃ X,X = uvarS t.u.length := ⟨_,rfl⟩
  obtain ⟨XT,hXT⟩ : ∃ X,X = t.u.flatMap oneTag := ⟨_,rfl⟩
  have hP : partS (d + 2) fs_DeleteACLsRequest ver true t = ((XL_0 ++ XE_0) ++ []) ++ (XU ++ XT) := by rw [hXU,hXT];exact partS_yes rfl hfu (plainL_has (by decide) hh_0 ((fieldS_list_t (g := (fun x => partS (d + 1) fs_X0 ver true x)) g_0 rfl (by decide) (fun x _ => valueS_part)).trans (by rw [hXL_0,hXE_0])) rfl)
  rw [hP] at hlen
  simp only [List.length_append,List.length_nil] at hlen
  have hdK : ∀ {r : Value} {w' : World} {add : List UInt8},AppR 5 B w v s add r w' → ∀ b,b < w'.heap.size → OkS okM w.heap.size b → ¬ ownB r b := fun h b _ hk ho => (h.frame b ho).elim (hd b hk.2 hk.1) (fun h => by have := hk.2;omega)
  have ownK : ∀ {r : Value} {w' : World} {add : List UInt8} {b : Nat},AppR 5 B w v s add r w' → b < w.heap.size → ¬ ownB v b → ¬ ownB r b := fun h hb hn ho => (h.frame _ ho).elim hn (fun h => by omega)
  have ha0 : AppR 5 B w v s [] v w := AppR.refl ho
  obtain ⟨w0,hw0⟩ : ∃ w0,w0 = w := ⟨_,rfl⟩
  have hB0 := hB
  have hv_0 := hv
  refine fn_of_W Tryz.func187 rfl Tryz.results187 Tryz.ntmps187 rfl ?_
  repeat ((first | refine qA rfl ?_|refine qB ?_|refine qC rfl ?_|refine qD ?_|refine qE ?_|refine qF ?_|refine qG ?_|refine qH ?_);try simp (maxSteps:=1000000)(disch:=(first|omega|(simp only [qI,qJ,qK]<;>omega)|exact qL _)) only [go_sem,↓reduceIte,n0,reduceCtorEq,n1,n2,n3,n4,n5,i0,i1,i2,i3,i4,i5,i6,i7,hv_0])
  refine (AppendCompactArrayLen_fn _ _ _ ha0.own hB0 (t.at 0).l.length hll_0 (by simp only [List.length_append,List.length_nil];omega)).mono ?_
  rintro r1 w1 hc1
  rw [← hXL_0] at hc1
  have ha1 := ha0.trans hc1
  have hB1 : B ≤ w1.heap.size := Nat.le_trans hB ha1.upd.size
  have hv_1 := ha1.upd.blk_some hv hdv
  repeat ((first | refine qA rfl ?_|refine qB ?_|refine qC rfl ?_|refine qD ?_|refine qE ?_|refine qF ?_|refine qG ?_|refine qH ?_);try simp (maxSteps:=1000000)(disch:=(first|omega|(simp only [qI,qJ,qK]<;>omega)|exact qL _)) only [go_sem,↓reduceIte,n0,reduceCtorEq,n1,n2,n3,n4,n5,i0,i1,i2,i3,i4,i5,i6,i7,hv_1])
  have hadd1 := ha1
  refine W.exitJ 0 (fun ρ w' => ∃ r,ρ 1 = r ∧ ρ 0 = .pointer (some ⟨vb,0,none⟩) ∧ ρ 5 = .int .i16 ver ∧ ρ 6 = .bool true ∧ AppR 5 B w v s (([] ++ XL_0) ++ XE_0) r w')
    (W.loop (fun ρ w' => ∃ (j : Nat) (r : Value),j ≤ (t.at 0).l.length ∧ ρ 44 = .int .i64 j ∧ ρ 43 = .int .i64 (t.at 0).l.length ∧ ρ 7 = .slice ab_0 (t.at 0).l.length ac_0 ∧ ρ 1 = r ∧ ρ 0 = .pointer (some ⟨vb,0,none⟩) ∧ ρ 5 = .int .i16 ver ∧ ρ 6 = .bool true ∧ AppR 5 B w v s (([] ++ XL_0) ++ ((t.at 0).l.take j).flatMap (fun x => partS (d + 1) fs_X0 ver true x)) r w')
      (fun ρ _ => (t.at 0).l.length - (RowKit.intOf (ρ 44)).toNat) ?_ ?_) ?_
  · refine ⟨0,_,Nat.zero_le _,?_,?_,?_,?_,?_,?_,?_,ha1.eqs (by rw [List.take_zero,List.flatMap_nil,List.append_nil])⟩ <;> simp (maxSteps:=1000000)(disch:=(first|omega|(simp only [qI,qJ,qK]<;>omega)|exact qL _)) only [go_sem,↓reduceIte,n0,reduceCtorEq,n1,n2,n3,n4,n5,i0,i1,i2,i3,i4,i5,i6,i7]
    all_goals rfl
  · rintro ρ w2 ⟨j1,r2,hj1,hI1,hN1,hS1,hr1_1,hr1_0,hr1_5,hr1_6,ha2⟩
    have hB2 : B ≤ w2.heap.size := Nat.le_trans hB ha2.upd.size
    have hv_2 := ha2.upd.blk_some hv hdv
    by_cases hlt1 : j1 < (t.at 0).l.length
    · obtain ⟨_,b1,o1,x1,ce1,hb1,hok1,hx1,hbl1,hxs1,hxe1,hq1,hRe1⟩ := SlR.get (size := 8) (by decide) hs_0 hlt1
      subst hb1
      have hcat1 : (t.at 0).l.take (j1 + 1) = (t.at 0).l.take j1 ++ [(t.at 0).l[j1]] := List.take_succ_eq_append_getElem hlt1
      have htl1 := take_flatMap_len (t.at 0).l (fun x => partS (d + 1) fs_X0 ver true x) (j1 + 1)
      rw [← hXE_0,hcat1,List.flatMap_append,List.flatMap_cons,List.flatMap_nil,List.append_nil] at htl1
      have hge1 := hgl_0.2 _ (List.getElem_mem hlt1)
      generalize (t.at 0).l[j1] = y1 at *
      have hnx1 := hd b1 hbl1 hok1
      obtain ⟨T1,hTT1⟩ : ∃ T,T = ((t.at 0).l.take j1).flatMap (fun x => partS (d + 1) fs_X0 ver true x) := ⟨_,rfl⟩
      rw [← hTT1] at ha2 htl1
      have hx1_2 := ha2.upd.blk_some hx1 hnx1
      replace hRe1 : RepS true (d + 1) fs_X0 okM w y1 ce1 := Rep1_part.1 hRe1
      have hfe1 : FitW ver (d + 1) fs_X0 y1 := hge1.2 rfl
      obtain ⟨⟨ge1_0,ge1_1,ge1_2,ge1_3,ge1_4,ge1_5,ge1_6,-⟩,hfue1⟩ := hfe1
      replace ge1_0 : hasS fX0_0 ver = true → FitWF (FitW ver d) ver fX0_0 (y1.at 0) := ge1_0
      have hhe1_0 : hasS fX0_0 ver = true := hasS_t (by show (0 : Int) ≤ ver;omega) (by show (-1 : Int) < 0 ∨ ver ≤ (-1 : Int);omega)
      replace ge1_0 := ge1_0 hhe1_0
      replace ge1_1 : hasS fX0_1 ver = true → FitWF (FitW ver d) ver fX0_1 (y1.at 1) := ge1_1
      have hhe1_1 : hasS fX0_1 ver = true := hasS_t (by show (0 : Int) ≤ ver;omega) (by show (-1 : Int) < 0 ∨ ver ≤ (-1 : Int);omega)
      replace ge1_1 := ge1_1 hhe1_1
      replace ge1_2 : hasS fX0_2 ver = true → FitWF (FitW ver d) ver fX0_2 (y1.at 2) := ge1_2
      have hhe1_2 : hasS fX0_2 ver = true := hasS_t (by show (1 : Int) ≤ ver;omega) (by show (-1 : Int) < 0 ∨ ver ≤ (-1 : Int);omega)
      replace ge1_2 := ge1_2 hhe1_2
      replace ge1_3 : hasS fX0_3 ver = true → FitWF (FitW ver d) ver fX0_3 (y1.at 3) := ge1_3
      have hhe1_3 : hasS fX0_3 ver = true := hasS_t (by show (0 : Int) ≤ ver;omega) (by show (-1 : Int) < 0 ∨ ver ≤ (-1 : Int);omega)
      replace ge1_3 := ge1_3 hhe1_3
      replace ge1_4 : hasS fX0_4 ver = true → FitWF (FitW ver d) ver fX0_4 (y1.at 4) := ge1_4
      have hhe1_4 : hasS fX0_4 ver = true := hasS_t (by show (0 : Int) ≤ ver;omega) (by show (-1 : Int) < 0 ∨ ver ≤ (-1 : Int);omega)
      replace ge1_4 := ge1_4 hhe1_4
      replace ge1_5 : hasS fX0_5 ver = true → FitWF (FitW ver d) ver fX0_5 (y1.at 5) := ge1_5
      have hhe1_5 : hasS fX0_5 ver = true := hasS_t (by show (0 : Int) ≤ ver;omega) (by show (-1 : Int) < 0 ∨ ver ≤ (-1 : Int);omega)
      replace ge1_5 := ge1_5 hhe1_5
      replace ge1_6 : hasS fX0_6 ver = true → FitWF (FitW ver d) ver fX0_6 (y1.at 6) := ge1_6
      have hhe1_6 : hasS fX0_6 ver = true := hasS_t (by show (0 : Int) ≤ ver;omega) (by show (-1 : Int) < 0 ∨ ver ≤ (-1 : Int);omega)
      replace ge1_6 := ge1_6 hhe1_6
      obtain ⟨cse1,qe1,hcse1,hLe1,hTe1⟩ := hRe1.inv
      obtain ⟨ce1_0,ee1_0,rfl,he1_0,ce1_1,ee1_1,rfl,he1_1,ce1_2,ee1_2,rfl,he1_2,ce1_3,ee1_3,rfl,he1_3,ce1_4,ee1_4,rfl,he1_4,ce1_5,ee1_5,rfl,he1_5,ce1_6,ee1_6,rfl,he1_6,rfl⟩ := hLe1
      replace he1_0 : RepF (RepS true d) (szS true d) fX0_0 okM w (y1.at 0) ce1_0 := he1_0
      replace he1_1 : RepF (RepS true d) (szS true d) fX0_1 okM w (y1.at 1) ce1_1 := he1_1
      replace he1_2 : RepF (RepS true d) (szS true d) fX0_2 okM w (y1.at 2) ce1_2 := he1_2
      replace he1_3 : RepF (RepS true d) (szS true d) fX0_3 okM w (y1.at 3) ce1_3 := he1_3
      replace he1_4 : RepF (RepS true d) (szS true d) fX0_4 okM w (y1.at 4) ce1_4 := he1_4
      replace he1_5 : RepF (RepS true d) (szS true d) fX0_5 okM w (y1.at 5) ce1_5 := he1_5
      replace he1_6 : RepF (RepS true d) (szS true d) fX0_6 okM w (y1.at 6) ce1_6 := he1_6
      obtain rfl := (RepF_num (by decide)).1 he1_0
      obtain ⟨pe1_1,rfl,hpe1_1⟩ := (RepF_ptr rfl (by decide)).1 he1_1
      obtain rfl := (RepF_num (by decide)).1 he1_2
      obtain ⟨pe1_3,rfl,hpe1_3⟩ := (RepF_ptr rfl (by decide)).1 he1_3
      obtain ⟨pe1_4,rfl,hpe1_4⟩ := (RepF_ptr rfl (by decide)).1 he1_4
      obtain rfl := (RepF_num (by decide)).1 he1_5
      obtain rfl := (RepF_num (by decide)).1 he1_6
      obtain ⟨qme1,rfl⟩ := hTe1.shape
      subst hcse1
      have hq1_0 : x1.1[o1 + j1 * 8]? = some (.int .i8 (IntKind.i8.wrap (y1.at 0).n)) := hq1 0 (by decide)
      have hq1_1 : x1.1[o1 + (j1 * 8 + 1)]? = some (pe1_1) := hq1 1 (by decide)
      have hq1_2 : x1.1[o1 + (j1 * 8 + 2)]? = some (.int .i8 (IntKind.i8.wrap (y1.at 2).n)) := hq1 2 (by decide)
      have hq1_3 : x1.1[o1 + (j1 * 8 + 3)]? = some (pe1_3) := hq1 3 (by decide)
      have hq1_4 : x1.1[o1 + (j1 * 8 + 4)]? = some (pe1_4) := hq1 4 (by decide)
      have hq1_5 : x1.1[o1 + (j1 * 8 + 5)]? = some (.int .i8 (IntKind.i8.wrap (y1.at 5).n)) := hq1 5 (by decide)
      have hq1_6 : x1.1[o1 + (j1 * 8 + 6)]? = some (.int .i8 (IntKind.i8.wrap (y1.at 6).n)) := hq1 6 (by decide)
      have hq1_7 : x1.1[o1 + (j1 * 8 + 7)]? = some (.map qme1) := hq1 7 (by decide)
      obtain ⟨Xe1_0,hXXe1_0⟩ : ∃ X,X = fixedS (y1.at 0).n 1 := ⟨_,rfl⟩
      obtain ⟨Xe1_1,hXXe1_1⟩ : ∃ X,X = if (y1.at 1).null = true then [0] else uvarS ((y1.at 1).s.length + 1) ++ (y1.at 1).s := ⟨_,rfl⟩
      obtain ⟨Xe1_2,hXXe1_2⟩ : ∃ X,X = fixedS (y1.at 2).n 1 := ⟨_,rfl⟩
      obtain ⟨Xe1_3,hXXe1_3⟩ : ∃ X,X = if (y1.at 3).null = true then [0] else uvarS ((y1.at 3).s.length + 1) ++ (y1.at 3).s := ⟨_,rfl⟩
      obtain ⟨Xe1_4,hXXe1_4⟩ : ∃ X,X = if (y1.at 4).null = true then [0] else uvarS ((y1.at 4).s.length + 1) ++ (y1.at 4).s := ⟨_,rfl⟩
      obtain ⟨Xe1_5,hXXe1_5⟩ : ∃ X,X = fixedS (y1.at 5).n 1 := ⟨_,rfl⟩
      obtain ⟨Xe1_6,hXXe1_6⟩ : ∃ X,X = fixedS (y1.at 6).n 1 := ⟨_,rfl⟩
      obtain ⟨XUe1,hXUe1⟩ : ∃ X,X = uvarS y1.u.length := ⟨_,rfl⟩
      obtain ⟨XTe1,hXTe1⟩ : ∃ X,X = y1.u.flatMap oneTag := ⟨_,rfl⟩
      have hPe1 : partS (d + 1) fs_X0 ver true y1 = (Xe1_0 ++ (Xe1_1 ++ (Xe1_2 ++ (Xe1_3 ++ (Xe1_4 ++ (Xe1_5 ++ (Xe1_6 ++ []))))))) ++ (XUe1 ++ XTe1) := by rw [hXUe1,hXTe1];exact partS_yes rfl hfue1 (plainL_has (by decide) hhe1_0 ((fieldS_num 1 rfl (by decide)).trans hXXe1_0.symm) (plainL_has (by decide) hhe1_1 ((fieldS_ptr_t ge1_1 rfl (by decide)).trans hXXe1_1.symm) (plainL_has (by decide) hhe1_2 ((fieldS_num 1 rfl (by decide)).trans hXXe1_2.symm) (plainL_has (by decide) hhe1_3 ((fieldS_ptr_t ge1_3 rfl (by decide)).trans hXXe1_3.symm) (plainL_has (by decide) hhe1_4 ((fieldS_ptr_t ge1_4 rfl (by decide)).trans hXXe1_4.symm) (plainL_has (by decide) hhe1_5 ((fieldS_num 1 rfl (by decide)).trans hXXe1_5.symm) (plainL_has (by decide) hhe1_6 ((fieldS_num 1 rfl (by decide)).trans hXXe1_6.symm) rfl)))))))
      rw [hPe1] at htl1
      simp only [List.length_append,List.length_nil] at htl1
      repeat ((first | refine qA rfl ?_|refine qB ?_|refine qC rfl ?_|refine qD ?_|refine qE ?_|refine qF ?_|refine qG ?_|refine qH ?_);try simp (maxSteps:=1000000)(disch:=(first|omega|(simp only [qI,qJ,qK]<;>omega)|exact qL _)) only [go_sem,↓reduceIte,n0,reduceCtorEq,n1,n2,n3,n4,n5,i0,i1,i2,i3,i4,i5,i6,i7,hv_2,hx1_2,Int.toNat_natCast,Nat.mul_one,hq1_0,hq1_1,hq1_2,hq1_3,hq1_4,hq1_5,hq1_6,hq1_7,hr1_1,hr1_0,hr1_5,hr1_6,hI1,hN1,hS1])
      refine (AppendInt8_fn _ _ _ ha2.own hB2 _ (by simp only [List.length_append,List.length_nil];omega)).mono ?_
      rintro r3 w3 hc3
      rw [wrap8,← hXXe1_0] at hc3
      have ha3 := ha2.trans hc3
      have hB3 : B ≤ w3.heap.size := Nat.le_trans hB ha3.upd.size
      have hv_3 := ha3.upd.blk_some hv hdv
      have hx1_3 := ha3.upd.blk_some hx1 hnx1
      repeat ((first | refine qA rfl ?_|refine qB ?_|refine qC rfl ?_|refine qD ?_|refine qE ?_|refine qF ?_|refine qG ?_|refine qH ?_);try simp (maxSteps:=1000000)(disch:=(first|omega|(simp only [qI,qJ,qK]<;>omega)|exact qL _)) only [go_sem,↓reduceIte,n0,reduceCtorEq,n1,n2,n3,n4,n5,i0,i1,i2,i3,i4,i5,i6,i7,hv_3,hx1_3,Int.toNat_natCast,Nat.mul_one,hq1_0,hq1_1,hq1_2,hq1_3,hq1_4,hq1_5,hq1_6,hq1_7,hr1_1,hr1_0,hr1_5,hr1_6,hI1,hN1,hS1])
      refine (AppendCompactNullableString_fn (ok := okM) _ _ _ ha3.own hB3 _ (y1.at 1).null (y1.at 1).s (hpe1_1.keep (ha3.upd.keeps hd)) (ge1_1.text (.inl rfl)) (by simp only [List.length_append,List.length_nil];omega)).mono ?_
      rintro r4 w4 hc4
      rw [← hXXe1_1] at hc4
      have ha4 := ha3.trans hc4
      have hB4 : B ≤ w4.heap.size := Nat.le_trans hB ha4.upd.size
      have hv_4 := ha4.upd.blk_some hv hdv
      have hx1_4 := ha4.upd.blk_some hx1 hnx1
      repeat ((first | refine qA rfl ?_|refine qB ?_|refine qC rfl ?_|refine qD ?_|refine qE ?_|refine qF ?_|refine qG ?_|refine qH ?_);try simp (maxSteps:=1000000)(disch:=(first|omega|(simp only [qI,qJ,qK]<;>omega)|exact qL _)) only [go_sem,↓reduceIte,n0,reduceCtorEq,n1,n2,n3,n4,n5,i0,i1,i2,i3,i4,i5,i6,i7,hv_4,hx1_4,Int.toNat_natCast,Nat.mul_one,hq1_0,hq1_1,hq1_2,hq1_3,hq1_4,hq1_5,hq1_6,hq1_7,hr1_1,hr1_0,hr1_5,hr1_6,hI1,hN1,hS1])
      refine (AppendInt8_fn _ _ _ ha4.own hB4 _ (by simp only [List.length_append,List.length_nil];omega)).mono ?_
      rintro r5 w5 hc5
      rw [wrap8,← hXXe1_2] at hc5
      have ha5 := ha4.trans hc5
      have hB5 : B ≤ w5.heap.size := Nat.le_trans hB ha5.upd.size
      have hv_5 := ha5.upd.blk_some hv hdv
      have hx1_5 := ha5.upd.blk_some hx1 hnx1
      repeat ((first | refine qA rfl ?_|refine qB ?_|refine qC rfl ?_|refine qD ?_|refine qE ?_|refine qF ?_|refine qG ?_|refine qH ?_);try simp (maxSteps:=1000000)(disch:=(first|omega|(simp only [qI,qJ,qK]<;>omega)|exact qL _)) only [go_sem,↓reduceIte,n0,reduceCtorEq,n1,n2,n3,n4,n5,i0,i1,i2,i3,i4,i5,i6,i7,hv_5,hx1_5,Int.toNat_natCast,Nat.mul_one,hq1_0,hq1_1,hq1_2,hq1_3,hq1_4,hq1_5,hq1_6,hq1_7,hr1_1,hr1_0,hr1_5,hr1_6,hI1,hN1,hS1])
      refine (AppendCompactNullableString_fn (ok := okM) _ _ _ ha5.own hB5 _ (y1.at 3).null (y1.at 3).s (hpe1_3.keep (ha5.upd.keeps hd)) (ge1_3.text (.inl rfl)) (by simp only [List.length_append,List.length_nil];omega)).mono ?_
      rintro r6 w6 hc6
      rw [← hXXe1_3] at hc6
      have ha6 := ha5.trans hc6
      have hB6 : B ≤ w6.heap.size := Nat.le_trans hB ha6.upd.size
      have hv_6 := ha6.upd.blk_some hv hdv
      have hx1_6 := ha6.upd.blk_some hx1 hnx1
      repeat ((first | refine qA rfl ?_|refine qB ?_|refine qC rfl ?_|refine qD ?_|refine qE ?_|refine qF ?_|refine qG ?_|refine qH ?_);try simp (maxSteps:=1000000)(disch:=(first|omega|(simp only [qI,qJ,qK]<;>omega)|exact qL _)) only [go_sem,↓reduceIte,n0,reduceCtorEq,n1,n2,n3,n4,n5,i0,i1,i2,i3,i4,i5,i6,i7,hv_6,hx1_6,Int.toNat_natCast,Nat.mul_one,hq1_0,hq1_1,hq1_2,hq1_3,hq1_4,hq1_5,hq1_6,hq1_7,hr1_1,hr1_0,hr1_5,hr1_6,hI1,hN1,hS1])
      refine (AppendCompactNullableString_fn (ok := okM) _ _ _ ha6.own hB6 _ (y1.at 4).null (y1.at 4).s (hpe1_4.keep (ha6.upd.keeps hd)) (ge1_4.text (.inl rfl)) (by simp only [List.length_append,List.length_nil];omega)).mono ?_
      rintro r7 w7 hc7
      rw [← hXXe1_4] at hc7
      have ha7 := ha6.trans hc7
      have hB7 : B ≤ w7.heap.size := Nat.le_trans hB ha7.upd.size
      have hv_7 := ha7.upd.blk_some hv hdv
      have hx1_7 := ha7.upd.blk_some hx1 hnx1
      repeat ((first | refine qA rfl ?_|refine qB ?_|refine qC rfl ?_|refine qD ?_|refine qE ?_|refine qF ?_|refine qG ?_|refine qH ?_);try simp (maxSteps:=1000000)(disch:=(first|omega|(simp only [qI,qJ,qK]<;>omega)|exact qL _)) only [go_sem,↓reduceIte,n0,reduceCtorEq,n1,n2,n3,n4,n5,i0,i1,i2,i3,i4,i5,i6,i7,hv_7,hx1_7,Int.toNat_natCast,Nat.mul_one,hq1_0,hq1_1,hq1_2,hq1_3,hq1_4,hq1_5,hq1_6,hq1_7,hr1_1,hr1_0,hr1_5,hr1_6,hI1,hN1,hS1])
      refine (AppendInt8_fn _ _ _ ha7.own hB7 _ (by simp only [List.length_append,List.length_nil];omega)).mono ?_
      rintro r8 w8 hc8
      rw [wrap8,← hXXe1_5] at hc8
      have ha8 := ha7.trans hc8
      have hB8 : B ≤ w8.heap.size := Nat.le_trans hB ha8.upd.size
      have hv_8 := ha8.upd.blk_some hv hdv
      have hx1_8 := ha8.upd.blk_some hx1 hnx1
      repeat ((first | refine qA rfl ?_|refine qB ?_|refine qC rfl ?_|refine qD ?_|refine qE ?_|refine qF ?_|refine qG ?_|refine qH ?_);try simp (maxSteps:=1000000)(disch:=(first|omega|(simp only [qI,qJ,qK]<;>omega)|exact qL _)) only [go_sem,↓reduceIte,n0,reduceCtorEq,n1,n2,n3,n4,n5,i0,i1,i2,i3,i4,i5,i6,i7,hv_8,hx1_8,Int.toNat_natCast,Nat.mul_one,hq1_0,hq1_1,hq1_2,hq1_3,hq1_4,hq1_5,hq1_6,hq1_7,hr1_1,hr1_0,hr1_5,hr1_6,hI1,hN1,hS1])
      refine (AppendInt8_fn _ _ _ ha8.own hB8 _ (by simp only [List.length_append,List.length_nil];omega)).mono ?_
      rintro r9 w9 hc9
      rw [wrap8,← hXXe1_6] at hc9
      have ha9 := ha8.trans hc9
      have hB9 : B ≤ w9.heap.size := Nat.le_trans hB ha9.upd.size
      have hv_9 := ha9.upd.blk_some hv hdv
      have hx1_9 := ha9.upd.blk_some hx1 hnx1
      repeat ((first | refine qA rfl ?_|refine qB ?_|refine qC rfl ?_|refine qD ?_|refine qE ?_|refine qF ?_|refine qG ?_|refine qH ?_);try simp (maxSteps:=1000000)(disch:=(first|omega|(simp only [qI,qJ,qK]<;>omega)|exact qL _)) only [go_sem,↓reduceIte,n0,reduceCtorEq,n1,n2,n3,n4,n5,i0,i1,i2,i3,i4,i5,i6,i7,hv_9,hx1_9,Int.toNat_natCast,Nat.mul_one,hq1_0,hq1_1,hq1_2,hq1_3,hq1_4,hq1_5,hq1_6,hq1_7,hr1_1,hr1_0,hr1_5,hr1_6,hI1,hN1,hS1])
      have hTk9 : TagsM (OkS okM w.heap.size) w9 (.map qme1) y1.u := (hTe1.weaken fun b h1 h2 => ⟨h2,h1⟩).keep (ha9.upd.keeps fun b hb hk => hd b hb hk.1)
      refine (TagsLen_fn (ok := OkS okM w.heap.size) w9 hx1_9 (to := o1 + (j1 * 8 + 7)) hq1_7 hTk9).mono ?_
      rintro _ w9' ⟨rfl,rfl⟩
      have hul9 : y1.u.length ≤ 32767 := hfue1.1
      have ew9 : IntKind.u32.wrap (y1.u.length : Int) = y1.u.length := u32_wrap (by omega)
      have ez9 : IntKind.u32.wrap (0 + (y1.u.length : Int)) = y1.u.length := by rw [Int.zero_add,u32_wrap (by omega)]
      simp (maxSteps:=1000000)(disch:=(first|omega|(simp only [qI,qJ,qK]<;>omega)|exact qL _)) only [go_sem,↓reduceIte,n0,reduceCtorEq,n1,n2,n3,n4,n5,i0,i1,i2,i3,i4,i5,i6,i7,hv_9,hx1_9,Int.toNat_natCast,Nat.mul_one,hq1_0,hq1_1,hq1_2,hq1_3,hq1_4,hq1_5,hq1_6,hq1_7,hr1_1,hr1_0,hr1_5,hr1_6,hI1,hN1,hS1,ew9,ez9]
      refine (AppendUvarint_fn _ _ _ ha9.own hB9 y1.u.length (by omega) (by simp only [List.length_append,List.length_nil];omega)).mono ?_
      rintro r10 w10 hc10
      rw [← hXUe1] at hc10
      have ha10 := ha9.trans hc10
      have hB10 : B ≤ w10.heap.size := Nat.le_trans hB ha10.upd.size
      have hv_10 := ha10.upd.blk_some hv hdv
      have hx1_10 := ha10.upd.blk_some hx1 hnx1
      repeat ((first | refine qA rfl ?_|refine qB ?_|refine qC rfl ?_|refine qD ?_|refine qE ?_|refine qF ?_|refine qG ?_|refine qH ?_);try simp (maxSteps:=1000000)(disch:=(first|omega|(simp only [qI,qJ,qK]<;>omega)|exact qL _)) only [go_sem,↓reduceIte,n0,reduceCtorEq,n1,n2,n3,n4,n5,i0,i1,i2,i3,i4,i5,i6,i7,hv_10,hx1_10,Int.toNat_natCast,Nat.mul_one,hq1_0,hq1_1,hq1_2,hq1_3,hq1_4,hq1_5,hq1_6,hq1_7,hr1_1,hr1_0,hr1_5,hr1_6,hI1,hN1,hS1])
      have hTk10 : TagsM (OkS okM w.heap.size) w10 (.map qme1) y1.u := (hTe1.weaken fun b h1 h2 => ⟨h2,h1⟩).keep (ha10.upd.keeps fun b hb hk => hd b hb hk.1)
      refine (AppendEach_fn (ok := OkS okM w.heap.size) _ _ _ ha10.own hB10 hx1_10 (to := o1 + (j1 * 8 + 7)) hq1_7 hTk10 (rising_keys hfue1) hfue1.1 (tags_small hfue1 hTk10) (hdK ha10) (ownK ha10 (blk_lt hx1) hnx1) (by simp only [List.length_append,List.length_nil];omega)).mono ?_
      rintro r11 w11 hc11
      rw [← hXTe1] at hc11
      have ha11 := ha10.trans hc11
      have hB11 : B ≤ w11.heap.size := Nat.le_trans hB ha11.upd.size
      have hv_11 := ha11.upd.blk_some hv hdv
      have hx1_11 := ha11.upd.blk_some hx1 hnx1
      repeat ((first | refine qA rfl ?_|refine qB ?_|refine qC rfl ?_|refine qD ?_|refine qE ?_|refine qF ?_|refine qG ?_|refine qH ?_);try simp (maxSteps:=1000000)(disch:=(first|omega|(simp only [qI,qJ,qK]<;>omega)|exact qL _)) only [go_sem,↓reduceIte,n0,reduceCtorEq,n1,n2,n3,n4,n5,i0,i1,i2,i3,i4,i5,i6,i7,hr1_1,hr1_0,hr1_5,hr1_6,hI1,hN1,hS1])
      refine ⟨⟨j1 + 1,_,by omega,rfl,rfl,ha11.eqs ?_⟩,?_⟩
      · rw [hcat1,List.flatMap_append,List.flatMap_cons,List.flatMap_nil,List.append_nil,← hTT1,hPe1];simp only [List.append_assoc,List.append_nil,List.nil_append]
      · simp only [RowKit.intOf];omega
    · have hjl1 : j1 = (t.at 0).l.length := by omega
      subst hjl1
      rw [List.take_length,← hXE_0] at ha2
      repeat ((first | refine qA rfl ?_|refine qB ?_|refine qC rfl ?_|refine qD ?_|refine qE ?_|refine qF ?_|refine qG ?_|refine qH ?_);try simp (maxSteps:=1000000)(disch:=(first|omega|(simp only [qI,qJ,qK]<;>omega)|exact qL _)) only [go_sem,↓reduceIte,n0,reduceCtorEq,n1,n2,n3,n4,n5,i0,i1,i2,i3,i4,i5,i6,i7,hI1,hN1])
      exact ⟨_,hr1_1,hr1_0,hr1_5,hr1_6,ha2⟩
  · rintro ρ w12 ⟨r12,hr1_2,hr2_0,hr2_5,hr2_6,ha12⟩
    have hB12 : B ≤ w12.heap.size := Nat.le_trans hB ha12.upd.size
    have hv_12 := ha12.upd.blk_some hv hdv
    repeat ((first | refine qA rfl ?_|refine qB ?_|refine qC rfl ?_|refine qD ?_|refine qE ?_|refine qF ?_|refine qG ?_|refine qH ?_);try simp (maxSteps:=1000000)(disch:=(first|omega|(simp only [qI,qJ,qK]<;>omega)|exact qL _)) only [go_sem,↓reduceIte,n0,reduceCtorEq,n1,n2,n3,n4,n5,i0,i1,i2,i3,i4,i5,i6,i7,hv_12,hr1_2,hr2_0,hr2_5,hr2_6])
    have hTk12 : TagsM (OkS okM w.heap.size) w12 (.map qm) t.u := (hT.weaken fun b h1 h2 => ⟨h2,h1⟩).keep (ha12.upd.keeps fun b hb hk => hd b hb hk.1)
    refine (TagsLen_fn (ok := OkS okM w.heap.size) w12 hv_12 (to := 2) (show (#[.int .i16 ver,.slice ab_0 (t.at 0).l.length ac_0,.map qm] : Array Value)[2]? = some (.map qm) from rfl) hTk12).mono ?_
    rintro _ w12' ⟨rfl,rfl⟩
    have hul12 : t.u.length ≤ 32767 := hfu.1
    have ew12 : IntKind.u32.wrap (t.u.length : Int) = t.u.length := u32_wrap (by omega)
    have ez12 : IntKind.u32.wrap (0 + (t.u.length : Int)) = t.u.length := by rw [Int.zero_add,u32_wrap (by omega)]
    simp (maxSteps:=1000000)(disch:=(first|omega|(simp only [qI,qJ,qK]<;>omega)|exact qL _)) only [go_sem,↓reduceIte,n0,reduceCtorEq,n1,n2,n3,n4,n5,i0,i1,i2,i3,i4,i5,i6,i7,hv_12,hr1_2,hr2_0,hr2_5,hr2_6,ew12,ez12]
    refine (AppendUvarint_fn _ _ _ ha12.own hB12 t.u.length (by omega) (by simp only [List.length_append,List.length_nil];omega)).mono ?_
    rintro r13 w13 hc13
    rw [← hXU] at hc13
    have ha13 := ha12.trans hc13
    have hB13 : B ≤ w13.heap.size := Nat.le_trans hB ha13.upd.size
    have hv_13 := ha13.upd.blk_some hv hdv
    repeat ((first | refine qA rfl ?_|refine qB ?_|refine qC rfl ?_|refine qD ?_|refine qE ?_|refine qF ?_|refine qG ?_|refine qH ?_);try simp (maxSteps:=1000000)(disch:=(first|omega|(simp only [qI,qJ,qK]<;>omega)|exact qL _)) only [go_sem,↓reduceIte,n0,reduceCtorEq,n1,n2,n3,n4,n5,i0,i1,i2,i3,i4,i5,i6,i7,hv_13,hr1_2,hr2_0,hr2_5,hr2_6])
    have hTk13 : TagsM (OkS okM w.heap.size) w13 (.map qm) t.u := (hT.weaken fun b h1 h2 => ⟨h2,h1⟩).keep (ha13.upd.keeps fun b hb hk => hd b hb hk.1)
    refine (AppendEach_fn (ok := OkS okM w.heap.size) _ _ _ ha13.own hB13 hv_13 (to := 2) (show (#[.int .i16 ver,.slice ab_0 (t.at 0).l.length ac_0,.map qm] : Array Value)[2]? = some (.map qm) from rfl) hTk13 (rising_keys hfu) hfu.1 (tags_small hfu hTk13) (hdK ha13) (ownK ha13 (blk_lt hv) hdv) (by simp only [List.length_append,List.length_nil];omega)).mono ?_
    rintro r14 w14 hc14
    rw [← hXT] at hc14
    have ha14 := ha13.trans hc14
    have hB14 : B ≤ w14.heap.size := Nat.le_trans hB ha14.upd.size
    have hv_14 := ha14.upd.blk_some hv hdv
    repeat ((first | refine qA rfl ?_|refine qB ?_|refine qC rfl ?_|refine qD ?_|refine qE ?_|refine qF ?_|refine qG ?_|refine qH ?_);try simp (maxSteps:=1000000)(disch:=(first|omega|(simp only [qI,qJ,qK]<;>omega)|exact qL _)) only [go_sem,↓reduceIte,n0,reduceCtorEq,n1,n2,n3,n4,n5,i0,i1,i2,i3,i4,i5,i6,i7,hv_14,hr1_2,hr2_0,hr2_5,hr2_6])
    refine ha14.eqs ?_
    rw [hP];simp only [List.append_assoc,List.append_nil,List.nil_append]
end Ms

namespace Ms
open Go.World renaming size_alloc → qI
open Ms renaming size_wr → qJ,size_drew → qK,not_noB → qL
open W renaming seqR → qA,seq → qB,regR → qC,condK → qD,block → qE,skip → qF,ret → qG,exit → qH
open Nat renaming reduceEqDiff → n0,reduceAdd → n1,reduceMul → n2,reduceSub → n3,reduceLT → n4,reduceLeDiff → n5
open Int renaming reduceEq → i0,reduceLT → i1,reduceLE → i2,reduceNeg → i3,reduceAdd → i4,reduceSub → i5,reduceMul → i6,reduceToNat → i7
set_option maxRecDepth 8000
open Go Go.Proofs Go.Shelf
attribute [local congr] W_congr WPsq_congr WPp_congr optK_congr addrK_congr intK_congr boolK_congr sliceK_congr tupleK_congr funcK_congr Fn_congr rawK_congr takeK_congr stepK_congr convK_congr aggK_congr

theorem KeyDeleteACLsRequest_fn (w : World) (vb : Nat) : Fn Tryz.prog 190 #[.pointer (some ⟨vb,0,none⟩)] w fun r w' => r = .int .i16 31 ∧ w' = w := by
  refine fn_of_W Tryz.func190 rfl Tryz.results190 Tryz.ntmps190 rfl ?_
  repeat ((first | refine qA rfl ?_|refine qB ?_|refine qC rfl ?_|refine qD ?_|refine qE ?_|refine qF ?_|refine qG ?_|refine qH ?_);try simp (maxSteps:=1000000)(disch:=(first|omega|(simp only [qI,qJ,qK]<;>omega)|exact qL _)) only [go_sem,↓reduceIte,n0,reduceCtorEq,n1,n2,n3,n4,n5,i0,i1,i2,i3,i4,i5,i6,i7])
  all_goals first | rfl | exact ⟨rfl,rfl⟩
theorem GetVDeleteACLsRequest_fn (w : World) {vb : Nat} {ver : Int} {cells : List Value} (hb : blk w vb = some ((.int .i16 ver :: cells).toArray,84,(0,0))) : Fn Tryz.prog 188 #[.pointer (some ⟨vb,0,none⟩)] w fun r w' => r = .int .i16 ver ∧ w' = w := by
  refine fn_of_W Tryz.func188 rfl Tryz.results188 Tryz.ntmps188 rfl ?_
  repeat ((first | refine qA rfl ?_|refine qB ?_|refine qC rfl ?_|refine qD ?_|refine qE ?_|refine qF ?_|refine qG ?_|refine qH ?_);try simp (maxSteps:=1000000)(disch:=(first|omega|(simp only [qI,qJ,qK]<;>omega)|exact qL _)) only [go_sem,↓reduceIte,n0,reduceCtorEq,n1,n2,n3,n4,n5,i0,i1,i2,i3,i4,i5,i6,i7,hb])
  all_goals first | rfl | exact ⟨rfl,rfl⟩
theorem IsFlexDeleteACLsRequest_fn (w : World) {vb : Nat} {ver : Int} {cells : List Value} (hlo : 0 ≤ ver) (hhi : ver ≤ 3) (hb : blk w vb = some ((.int .i16 ver :: cells).toArray,84,(0,0))) : Fn Tryz.prog 189 #[.pointer (some ⟨vb,0,none⟩)] w fun r w' => r = .bool (flexB 2 ver) ∧ w' = w := by
  refine fn_of_W Tryz.func189 rfl Tryz.results189 Tryz.ntmps189 rfl ?_
  by_cases hv : 2 ≤ ver
  · repeat ((first | refine qA rfl ?_|refine qB ?_|refine qC rfl ?_|refine qD ?_|refine qE ?_|refine qF ?_|refine qG ?_|refine qH ?_);try simp (maxSteps:=1000000)(disch:=(first|omega|(simp only [qI,qJ,qK]<;>omega)|exact qL _)) only [go_sem,↓reduceIte,n0,reduceCtorEq,n1,n2,n3,n4,n5,i0,i1,i2,i3,i4,i5,i6,i7,hb])
    all_goals simp [flexB] <;> omega
  · repeat ((first | refine qA rfl ?_|refine qB ?_|refine qC rfl ?_|refine qD ?_|refine qE ?_|refine qF ?_|refine qG ?_|refine qH ?_);try simp (maxSteps:=1000000)(disch:=(first|omega|(simp only [qI,qJ,qK]<;>omega)|exact qL _)) only [go_sem,↓reduceIte,n0,reduceCtorEq,n1,n2,n3,n4,n5,i0,i1,i2,i3,i4,i5,i6,i7,hb])
    all_goals simp [flexB] <;> omega
theorem mKeyDeleteACLsRequest : methodP Tryz.prog 46 "Key" = some (190,true) := by kernel_rfl
theorem kKeyDeleteACLsRequest : callable Tryz.prog 190 = true := by kernel_rfl
theorem mGetVDeleteACLsRequest : methodP Tryz.prog 46 "GetVersion" = some (188,true) := by kernel_rfl
theorem kGetVDeleteACLsRequest : callable Tryz.prog 188 = true := by kernel_rfl
theorem mIsFlexDeleteACLsRequest : methodP Tryz.prog 46 "IsFlexible" = some (189,true) := by kernel_rfl
theorem kIsFlexDeleteACLsRequest : callable Tryz.prog 189 = true := by kernel_rfl
theorem mAppDeleteACLsRequest : methodP Tryz.prog 46 "AppendTo" = some (187,true) := by kernel_rfl
theorem kAppDeleteACLsRequest : callable Tryz.prog 187 = true := by kernel_rfl
theorem recvDeleteACLsRequest : recvOk Tryz.prog 46 true = true := by kernel_rfl

set_option maxHeartbeats 2000000 in
theorem reqDeleteACLsRequest {d : Nat} {ver : Int} {vb B : Nat} {cells : List Value} {t : Tree} (hlo : 0 ≤ ver) (hhi : ver ≤ 3) (hvb : vb < B) (hcn : partS (d + 2) fs_DeleteACLsRequest ver (flexB 2 ver) (cnP (d + 2) ver (flexB 2 ver) fs_DeleteACLsRequest t) = (partS (d + 2) fs_DeleteACLsRequest ver (flexB 2 ver) t) ∧ FitW ver (d + 2) fs_DeleteACLsRequest (cnP (d + 2) ver (flexB 2 ver) fs_DeleteACLsRequest t)) (hl : (partS (d + 2) fs_DeleteACLsRequest ver (flexB 2 ver) t).length ≤ 2 ^ 40) :
    ReqOk Tryz.prog 5 46 (.pointer (some ⟨vb,0,none⟩)) B 31 ver (flexB 2 ver) (partS (d + 2) fs_DeleteACLsRequest ver (flexB 2 ver) t) (fun w => (blk w vb = some ((.int .i16 ver :: cells).toArray,84,(0,0))) ∧ RepS true (d + 2) fs_DeleteACLsRequest (fun b => b < B) w (cnP (d + 2) ver (flexB 2 ver) fs_DeleteACLsRequest t) cells) := by
  refine ⟨fun w w' h hu => ⟨hu.blk_some h.1 (by omega),?_⟩,recvDeleteACLsRequest,⟨_,mKeyDeleteACLsRequest,kKeyDeleteACLsRequest,fun w _ => KeyDeleteACLsRequest_fn w vb⟩,⟨_,mGetVDeleteACLsRequest,kGetVDeleteACLsRequest,fun w h => GetVDeleteACLsRequest_fn w h.1⟩,⟨_,mIsFlexDeleteACLsRequest,kIsFlexDeleteACLsRequest,fun w h => IsFlexDeleteACLsRequest_fn w hlo hhi h.1⟩,⟨_,mAppDeleteACLsRequest,kAppDeleteACLsRequest,fun w v s B' h hB hB' ho hs => ?_⟩⟩
  · exact (RepS_lay true (d + 2) fs_DeleteACLsRequest).keep h.2 (hu.keeps fun b _ hk hb => by omega)
  have hcl : (0 ≤ ver ∧ ver ≤ 0) ∨ (1 ≤ ver ∧ ver ≤ 1) ∨ (2 ≤ ver ∧ ver ≤ 3) := by omega
  rcases hcl with ⟨h1,h2⟩ | ⟨h1,h2⟩ | ⟨h1,h2⟩
  · have hfl : flexB 2 ver = false := by simp only [flexB,Bool.and_eq_false_iff,decide_eq_false_iff_not];omega
    rw [hfl] at hcn h hl ⊢
    refine (appDeleteACLsRequest_0 (d := d) (B := B') h1 h2 _ cells v s w ho hB' h.1 h.2 hcn.2 (fun b hb h1 h2 => by have := Own.above ho h2;omega) (fun h => by have := Own.above ho h;omega) (by rw [hcn.1];omega)).mono ?_
    intro r w' h6
    rw [hcn.1] at h6
    exact h6
  · have hfl : flexB 2 ver = false := by simp only [flexB,Bool.and_eq_false_iff,decide_eq_false_iff_not];omega
    rw [hfl] at hcn h hl ⊢
    refine (appDeleteACLsRequest_1 (d := d) (B := B') h1 h2 _ cells v s w ho hB' h.1 h.2 hcn.2 (fun b hb h1 h2 => by have := Own.above ho h2;omega) (fun h => by have := Own.above ho h;omega) (by rw [hcn.1];omega)).mono ?_
    intro r w' h6
    rw [hcn.1] at h6
    exact h6
  · have hfl : flexB 2 ver = true := by simp only [flexB,Bool.and_eq_true,decide_eq_true_eq];omega
    rw [hfl] at hcn h hl ⊢
    refine (appDeleteACLsRequest_2 (d := d) (B := B') h1 h2 _ cells v s w ho hB' h.1 h.2 hcn.2 (fun b hb h1 h2 => by have := Own.above ho h2;omega) (fun h => by have := Own.above ho h;omega) (by rw [hcn.1];omega)).mono ?_
    intro r w' h6
    rw [hcn.1] at h6
    exact h6

set_option maxHeartbeats 2000000 in
theorem FrameDeleteACLsRequest_fn {d : Nat} {ok : Blocks} {ev : Value} (ver : Nat) (hv : ver ≤ 3) (t : Tree) (has : Bool) (id : List UInt8) (number : Int) (b : Value) (w : World) (hb : BytesV ok w b (partS (d + 2) fs_DeleteACLsRequest ver (flexB 2 ver) t)) (hG : Glo ev w) (hrd : rdP (d + 2) ver (flexB 2 ver) fs_DeleteACLsRequest (some (partS (d + 2) fs_DeleteACLsRequest ver (flexB 2 ver) t)) = (cnP (d + 2) ver (flexB 2 ver) fs_DeleteACLsRequest t,some []))
    (hcn : partS (d + 2) fs_DeleteACLsRequest ver (flexB 2 ver) (cnP (d + 2) ver (flexB 2 ver) fs_DeleteACLsRequest t) = (partS (d + 2) fs_DeleteACLsRequest ver (flexB 2 ver) t) ∧ FitW ver (d + 2) fs_DeleteACLsRequest (cnP (d + 2) ver (flexB 2 ver) fs_DeleteACLsRequest t)) (hl : (partS (d + 2) fs_DeleteACLsRequest ver (flexB 2 ver) t).length ≤ 2 ^ 40) (hid : id.length ≤ 32767) (hkv : ¬ ((31 : Int) = 7 ∧ (ver : Int) = 0)) :
    Fn Tryz.prog 18 #[.agg #[.bool has,strV id],.int .i32 number,.int .i64 ver,b] w fun r w' => (∃ v,r = .tuple #[v,.bool true] ∧ OwnBy 5 w.heap.size w' v (frameS 31 ver number (!has) id (flexB 2 ver) (partS (d + 2) fs_DeleteACLsRequest ver (flexB 2 ver) t))) ∧ Ext w w' := by
  obtain ⟨ba,bc,rfl,_⟩ := hb.shape
  have hgl := hG.lt
  have ew : IntKind.i16.wrap (ver : Int) = ver := i16_wrap (by omega)
  have hE0 : Ext w (w.alloc (.cells #[.bool has,strV id] 23)) := Upd.alloc (Upd.refl _ _) _
  have hz0 : (w.alloc (.cells #[.bool has,strV id] 23)).heap.size = w.heap.size + 1 := World.size_alloc _ _
  have hi0 : blk (w.alloc (.cells #[.bool has,strV id] 23)) w.heap.size = some (#[.bool has,strV id],23,(0,0)) := blk_alloc_new rfl
  refine fn_of_W Tryz.func18 rfl Tryz.results18 Tryz.ntmps18 rfl ?_
  repeat ((first | refine qA rfl ?_|refine qB ?_|refine qC rfl ?_|refine qD ?_|refine qE ?_|refine qF ?_|refine qG ?_|refine qH ?_);try simp (maxSteps:=1000000)(disch:=(first|omega|(simp only [qI,qJ,qK]<;>omega)|exact qL _)) only [go_sem,↓reduceIte,n0,reduceCtorEq,n1,n2,n3,n4,n5,i0,i1,i2,i3,i4,i5,i6,i7,ew,cells_strV,flat_strV])
  generalize (w.alloc (.cells #[.bool has,strV id] 23)) = w0 at *
  refine (NewPtrDeleteACLsRequest_fn w0).mono ?_
  rintro _ w1 ⟨rfl,hb1,hE1⟩
  have hz1 := blk_lt hb1
  repeat ((first | refine qA rfl ?_|refine qB ?_|refine qC rfl ?_|refine qD ?_|refine qE ?_|refine qF ?_|refine qG ?_|refine qH ?_);try simp (maxSteps:=1000000)(disch:=(first|omega|(simp only [qI,qJ,qK]<;>omega)|exact qL _)) only [go_sem,↓reduceIte,n0,reduceCtorEq,n1,n2,n3,n4,n5,i0,i1,i2,i3,i4,i5,i6,i7,ew])
  refine (SetVersionDeleteACLsRequest_fn w1 (vb := w0.heap.size) ver hb1).mono ?_
  rintro _ w2 ⟨hb2,hU2⟩
  have hz2 := hU2.size
  have hE2 : Ext w0 w2 := hE1.more hU2 fun b hb h => by omega
  repeat ((first | refine qA rfl ?_|refine qB ?_|refine qC rfl ?_|refine qD ?_|refine qE ?_|refine qF ?_|refine qG ?_|refine qH ?_);try simp (maxSteps:=1000000)(disch:=(first|omega|(simp only [qI,qJ,qK]<;>omega)|exact qL _)) only [go_sem,↓reduceIte,n0,reduceCtorEq,n1,n2,n3,n4,n5,i0,i1,i2,i3,i4,i5,i6,i7,ew])
  refine wp_copyN ap_24_24 (ok := ok) (s := (partS (d + 2) fs_DeleteACLsRequest ver (flexB 2 ver) t)) (v := .slice ba _ bc) (by first | rfl | simp (maxSteps:=1000000)(disch:=(first|omega|(simp only [qI,qJ,qK]<;>omega)|exact qL _)) only [go_sem,↓reduceIte,n0,reduceCtorEq,n1,n2,n3,n4,n5,i0,i1,i2,i3,i4,i5,i6,i7]) (by first | rfl | simp (maxSteps:=1000000)(disch:=(first|omega|(simp only [qI,qJ,qK]<;>omega)|exact qL _)) only [go_sem,↓reduceIte,n0,reduceCtorEq,n1,n2,n3,n4,n5,i0,i1,i2,i3,i4,i5,i6,i7]) (hb.keep (Ext.keeps (hE0.trans hE2) _)) (by omega) ?_
  intro v3 w3 ho3 hE3 hf3
  have hz3 := hE3.size
  have hb3 := hE3.blk_some hb2 _root_.id
  have hG3 : Glo ev w3 := hG.updS ((hE0.trans hE2).trans hE3) _root_.id _root_.id
  obtain ⟨a3,c3,rfl,_⟩ := ho3.shape
  try simp (maxSteps:=1000000)(disch:=(first|omega|(simp only [qI,qJ,qK]<;>omega)|exact qL _)) only [go_sem,↓reduceIte,n0,reduceCtorEq,n1,n2,n3,n4,n5,i0,i1,i2,i3,i4,i5,i6,i7]
  refine (ReadFromDeleteACLsRequest_fn (d := d) (ok := fun b => b < w3.heap.size ∧ b ≠ w0.heap.size) (ev := ev) (ver := ver) (by omega) (by omega) w3 _ _ hb3 ((Own.bytes ho3 hf3).weaken fun b hb hk => ⟨hb,by omega⟩) (fun b hb => hb) hG3 ⟨by omega,by omega⟩).mono ?_
  rintro r4 w4 ⟨_,h4,hU4⟩
  rw [hrd] at h4
  obtain ⟨rfl,cells,hb4,hR4⟩ := h4 (by simp)
  have hz4 := hU4.size
  have hE4 : Ext w0 w4 := (hE2.trans hE3).more hU4 fun b hb h => by omega
  have hE04 := hE0.trans hE4
  have hi4 := hE4.blk_some hi0 _root_.id
  have hR4' : RepS true (d + 2) fs_DeleteACLsRequest (fun b => b < w4.heap.size) w4 (cnP (d + 2) ver (flexB 2 ver) fs_DeleteACLsRequest t) cells := (RepS_lay true (d + 2) fs_DeleteACLsRequest).weaken hR4 fun b hb _ => hb
  try simp (maxSteps:=1000000)(disch:=(first|omega|(simp only [qI,qJ,qK]<;>omega)|exact qL _)) only [go_sem,↓reduceIte,n0,reduceCtorEq,n1,n2,n3,n4,n5,i0,i1,i2,i3,i4,i5,i6,i7]
  repeat ((first | refine qA rfl ?_|refine qB ?_|refine qC rfl ?_|refine qD ?_|refine qE ?_|refine qF ?_|refine qG ?_|refine qH ?_);try simp (maxSteps:=1000000)(disch:=(first|omega|(simp only [qI,qJ,qK]<;>omega)|exact qL _)) only [go_sem,↓reduceIte,n0,reduceCtorEq,n1,n2,n3,n4,n5,i0,i1,i2,i3,i4,i5,i6,i7,hi4,cellsAt_two])
  refine (framed_fn (reqDeleteACLsRequest (d := d) (B := w4.heap.size) (vb := w0.heap.size) (cells := cells) (t := t) (by omega) (by omega) (by omega) hcn hl) rfl w4 ⟨hb4,hR4'⟩ (Nat.le_refl _) has id hid hl number hkv).mono ?_
  rintro r5 w5 ⟨ho5,hE5⟩
  obtain ⟨a5,c5,rfl,_⟩ := ho5.shape
  try simp (maxSteps:=1000000)(disch:=(first|omega|(simp only [qI,qJ,qK]<;>omega)|exact qL _)) only [go_sem,↓reduceIte,n0,reduceCtorEq,n1,n2,n3,n4,n5,i0,i1,i2,i3,i4,i5,i6,i7]
  repeat ((first | refine qA rfl ?_|refine qB ?_|refine qC rfl ?_|refine qD ?_|refine qE ?_|refine qF ?_|refine qG ?_|refine qH ?_);try simp (maxSteps:=1000000)(disch:=(first|omega|(simp only [qI,qJ,qK]<;>omega)|exact qL _)) only [go_sem,↓reduceIte,n0,reduceCtorEq,n1,n2,n3,n4,n5,i0,i1,i2,i3,i4,i5,i6,i7])
  exact ⟨⟨_,rfl,Own.mono ho5 hE04.size⟩,hE04.trans hE5⟩

end Ms

namespace Ms
open Go.World renaming size_alloc → qI
open Ms renaming size_wr → qJ,size_drew → qK,not_noB → qL
open W renaming seqR → qA,seq → qB,regR → qC,condK → qD,block → qE,skip → qF,ret → qG,exit → qH
open Nat renaming reduceEqDiff → n0,reduceAdd → n1,reduceMul → n2,reduceSub → n3,reduceLT → n4,reduceLeDiff → n5
open Int renaming reduceEq → i0,reduceLT → i1,reduceLE → i2,reduceNeg → i3,reduceAdd → i4,reduceSub → i5,reduceMul → i6,reduceToNat → i7
set_option maxRecDepth 8000
open Go Go.Proofs Go.Shelf
attribute [local congr] W_congr WPsq_congr WPp_congr optK_congr addrK_congr intK_congr boolK_congr sliceK_congr tupleK_congr funcK_congr Fn_congr rawK_congr takeK_congr stepK_congr convK_congr aggK_congr

set_option maxHeartbeats 4000000 in
theorem law_FrameDeleteACLsRequest {ok : Blocks} {ev : Value} (n : Nat) (hn : n < 256) (has : Bool) (id : List UInt8) (number : Int) (hnum : -2147483648 ≤ number ∧ number < 2147483648) (t : Tree) (ct : List Value) (w : World) (ht : TreeC ok w t ct) (hsm : Small 4611686018427387903 t) (hG : Glo ev w) {N : Nat} (hN : N ≤ 1048576) (hsz : Sized N t) :
    Fn Tryz.prog 3 #[.int .u8 n,.agg #[.bool has,strV id],.int .i32 number,.agg ct.toArray] w fun r w' => r = .bool true ∧ Ext w w' := by
  obtain ⟨vS,vL,vU,rfl,hn',hS,hL,hU⟩ := ht.inv
  have f1 := hS.flat
  have f2 := SlR.flat hL
  have f3 := SlR.flat hU
  have hE : Ext w ((w.alloc (.cells #[.bool has,strV id] 23)).alloc (.cells #[.int .i64 t.n,vS,.bool t.null,vL,vU] 28)) := Upd.alloc (Upd.alloc (Upd.refl _ _) _) _
  refine fn_of_W Tryz.func3 rfl Tryz.results3 Tryz.ntmps3 rfl ?_
  repeat ((first | refine qA rfl ?_|refine qB ?_|refine qC rfl ?_|refine qD ?_|refine qE ?_|refine qF ?_|refine qG ?_|refine qH ?_);try simp (maxSteps:=1000000)(disch:=(first|omega|(simp only [qI,qJ,qK]<;>omega)|exact qL _)) only [go_sem,↓reduceIte,n0,reduceCtorEq,n1,n2,n3,n4,n5,i0,i1,i2,i3,i4,i5,i6,i7,f1,f2,f3,cellsAt_five,cellsAt_two,cells_strV,flat_strV])
  have hi1 : blk ((w.alloc (.cells #[.bool has,strV id] 23)).alloc (.cells #[.int .i64 t.n,vS,.bool t.null,vL,vU] 28)) w.heap.size = some (#[.bool has,strV id],23,(0,0)) := by simp (maxSteps:=1000000)(disch:=(first|omega|(simp only [qI,qJ,qK]<;>omega)|exact qL _)) only [go_sem,↓reduceIte,n0,reduceCtorEq,n1,n2,n3,n4,n5,i0,i1,i2,i3,i4,i5,i6,i7]
  have hb : blk ((w.alloc (.cells #[.bool has,strV id] 23)).alloc (.cells #[.int .i64 t.n,vS,.bool t.null,vL,vU] 28)) (w.heap.size + 1) = some (#[.int .i64 t.n,vS,.bool t.null,vL,vU],28,(0,0)) := by simp (maxSteps:=1000000)(disch:=(first|omega|(simp only [qI,qJ,qK]<;>omega)|exact qL _)) only [go_sem,↓reduceIte,n0,reduceCtorEq,n1,n2,n3,n4,n5,i0,i1,i2,i3,i4,i5,i6,i7]
  generalize ((w.alloc (.cells #[.bool has,strV id] 23)).alloc (.cells #[.int .i64 t.n,vS,.bool t.null,vL,vU] 28)) = w1 at *
  refine (zzFits4_fn has id w1).mono ?_
  rintro r2 w2 ⟨⟨b4,rfl⟩,hE2⟩
  have hE02 := hE.trans hE2
  have hi2 := hE2.blk_some hi1 _root_.id
  have hb2 := hE2.blk_some hb _root_.id
  cases b4 with
  | false =>
    try simp (maxSteps:=1000000)(disch:=(first|omega|(simp only [qI,qJ,qK]<;>omega)|exact qL _)) only [go_sem,↓reduceIte,n0,reduceCtorEq,n1,n2,n3,n4,n5,i0,i1,i2,i3,i4,i5,i6,i7]
    repeat ((first | refine qA rfl ?_|refine qB ?_|refine qC rfl ?_|refine qD ?_|refine qE ?_|refine qF ?_|refine qG ?_|refine qH ?_);try simp (maxSteps:=1000000)(disch:=(first|omega|(simp only [qI,qJ,qK]<;>omega)|exact qL _)) only [go_sem,↓reduceIte,n0,reduceCtorEq,n1,n2,n3,n4,n5,i0,i1,i2,i3,i4,i5,i6,i7])
    all_goals exact hE02
  | true =>
    try simp (maxSteps:=1000000)(disch:=(first|omega|(simp only [qI,qJ,qK]<;>omega)|exact qL _)) only [go_sem,↓reduceIte,n0,reduceCtorEq,n1,n2,n3,n4,n5,i0,i1,i2,i3,i4,i5,i6,i7,hb2,cellsAt_five]
    refine (zzFits1_fn (ok := ok) t _ w2 (ht.keep (Ext.keeps hE02 _)) hsm).mono ?_
    rintro r3 w3 ⟨⟨bb,rfl⟩,hE3⟩
    have hE03 := hE02.trans hE3
    have hi3 := hE3.blk_some hi2 _root_.id
    have hb3 := hE3.blk_some hb2 _root_.id
    cases bb with
    | false =>
      try simp (maxSteps:=1000000)(disch:=(first|omega|(simp only [qI,qJ,qK]<;>omega)|exact qL _)) only [go_sem,↓reduceIte,n0,reduceCtorEq,n1,n2,n3,n4,n5,i0,i1,i2,i3,i4,i5,i6,i7]
      repeat ((first | refine qA rfl ?_|refine qB ?_|refine qC rfl ?_|refine qD ?_|refine qE ?_|refine qF ?_|refine qG ?_|refine qH ?_);try simp (maxSteps:=1000000)(disch:=(first|omega|(simp only [qI,qJ,qK]<;>omega)|exact qL _)) only [go_sem,↓reduceIte,n0,reduceCtorEq,n1,n2,n3,n4,n5,i0,i1,i2,i3,i4,i5,i6,i7])
      all_goals exact hE03
    | true =>
      try simp (maxSteps:=1000000)(disch:=(first|omega|(simp only [qI,qJ,qK]<;>omega)|exact qL _)) only [go_sem,↓reduceIte,n0,reduceCtorEq,n1,n2,n3,n4,n5,i0,i1,i2,i3,i4,i5,i6,i7]
      repeat ((first | refine qA rfl ?_|refine qB ?_|refine qC rfl ?_|refine qD ?_|refine qE ?_|refine qF ?_|refine qG ?_|refine qH ?_);try simp (maxSteps:=1000000)(disch:=(first|omega|(simp only [qI,qJ,qK]<;>omega)|exact qL _)) only [go_sem,↓reduceIte,n0,reduceCtorEq,n1,n2,n3,n4,n5,i0,i1,i2,i3,i4,i5,i6,i7])
      refine (MaxDeleteACLsRequest_fn w3).mono ?_
      rintro _ w3m ⟨rfl,hE3m⟩
      repeat ((first | refine qA rfl ?_|refine qB ?_|refine qC rfl ?_|refine qD ?_|refine qE ?_|refine qF ?_|refine qG ?_|refine qH ?_);try simp (maxSteps:=1000000)(disch:=(first|omega|(simp only [qI,qJ,qK]<;>omega)|exact qL _)) only [go_sem,↓reduceIte,n0,reduceCtorEq,n1,n2,n3,n4,n5,i0,i1,i2,i3,i4,i5,i6,i7])
      refine (cDeleteACLsRequest_fn w3m).mono ?_
      rintro r4 w4 ⟨⟨vs,rfl,hF0⟩,hE4⟩
      have hF : FldsV AnyB w4 vs fs_DeleteACLsRequest := hF0.weaken fun _ _ _ => trivial
      have fF := SlR.flat hF
      try simp (maxSteps:=1000000)(disch:=(first|omega|(simp only [qI,qJ,qK]<;>omega)|exact qL _)) only [go_sem,↓reduceIte,n0,reduceCtorEq,n1,n2,n3,n4,n5,i0,i1,i2,i3,i4,i5,i6,i7]
      refine (version_fn w4 n 3 hn (by decide)).mono ?_
      rintro _ w4v ⟨rfl,rfl⟩
      have hE04 : Ext w w4v := (hE03.trans hE3m).trans hE4
      have hi4 := hE4.blk_some (hE3m.blk_some hi3 _root_.id) _root_.id
      have hb4 := hE4.blk_some (hE3m.blk_some hb3 _root_.id) _root_.id
      have hE5 : Ext w4v (wr (w4v.alloc (.cells #[.slice none 0 0,.int .i64 0] 34)) w4v.heap.size 0 [vs,.int .i64 2]) := (Upd.alloc (Upd.refl _ _) _).wr _ _ (.inl (Nat.le_refl _))
      have hm5 : blk (wr (w4v.alloc (.cells #[.slice none 0 0,.int .i64 0] 34)) w4v.heap.size 0 [vs,.int .i64 2]) w4v.heap.size = some (#[vs,.int .i64 2],34,(0,0)) := by simp (maxSteps:=1000000)(disch:=(first|omega|(simp only [qI,qJ,qK]<;>omega)|exact qL _)) only [go_sem,↓reduceIte,n0,reduceCtorEq,n1,n2,n3,n4,n5,i0,i1,i2,i3,i4,i5,i6,i7]
      try simp (maxSteps:=1000000)(disch:=(first|omega|(simp only [qI,qJ,qK]<;>omega)|exact qL _)) only [go_sem,↓reduceIte,n0,reduceCtorEq,n1,n2,n3,n4,n5,i0,i1,i2,i3,i4,i5,i6,i7,fF]
      generalize (wr (w4v.alloc (.cells #[.slice none 0 0,.int .i64 0] 34)) w4v.heap.size 0 [vs,.int .i64 2]) = w5 at *
      have hi5 := hE5.blk_some hi4 _root_.id
      have hb5 := hE5.blk_some hb4 _root_.id
      have hv3 : n % 4 < 4 := Nat.mod_lt _ (by omega)
      generalize n % 4 = ver at *
      have hE05 : Ext w w5 := hE04.trans hE5
      skip
      by_cases hidb : (32767 : Int) < (id.length : Int)
      · repeat ((first | refine qA rfl ?_|refine qB ?_|refine qC rfl ?_|refine qD ?_|refine qE ?_|refine qF ?_|refine qG ?_|refine qH ?_);try simp (maxSteps:=1000000)(disch:=(first|omega|(simp only [qI,qJ,qK]<;>omega)|exact qL _)) only [go_sem,↓reduceIte,n0,reduceCtorEq,n1,n2,n3,n4,n5,i0,i1,i2,i3,i4,i5,i6,i7,hi5,lenV_strV,hidb])
        all_goals exact hE05
      repeat ((first | refine qA rfl ?_|refine qB ?_|refine qC rfl ?_|refine qD ?_|refine qE ?_|refine qF ?_|refine qG ?_|refine qH ?_);try simp (maxSteps:=1000000)(disch:=(first|omega|(simp only [qI,qJ,qK]<;>omega)|exact qL _)) only [go_sem,↓reduceIte,n0,reduceCtorEq,n1,n2,n3,n4,n5,i0,i1,i2,i3,i4,i5,i6,i7,hi5,lenV_strV,hidb,hb5,hm5,cellsAt_five,cellsAt_two])
      have hokF : okF 2 fs_DeleteACLsRequest = true := by decide
      have hokM : okM 2 fs_DeleteACLsRequest = true := by decide
      have hokR : okR 2 ver (flexB 2 ver) fs_DeleteACLsRequest = true := (by decide : ∀ v : Fin 4,okR 2 ((v.val : Nat) : Int) (flexB 2 ((v.val : Nat) : Int)) fs_DeleteACLsRequest = true) ⟨ver,hv3⟩
      have hpl : (partS 3 fs_DeleteACLsRequest ver (flexB 2 ver) t).length ≤ 2 ^ 40 := Nat.le_trans (partS_bound ver _ 2 fs_DeleteACLsRequest N t hokM hsz) (Nat.le_trans (Nat.mul_le_mul_left _ (Nat.succ_le_succ hN)) (by decide))
      refine (Write_fn (ok := AnyB) (d := 2) fs_DeleteACLsRequest 2 ver t vs _ w5 (hF.keep (Ext.keeps hE5 _)) hokF ((ht.weaken fun _ _ _ => trivial).keep (Ext.keeps hE05 _)) hsm hpl).mono ?_
      rintro r6 w6 ⟨ho6,hE6⟩
      have hE06 := hE05.trans hE6
      have hi6 := hE6.blk_some hi5 _root_.id
      obtain ⟨a6,c6,rfl,_⟩ := ho6.shape
      repeat ((first | refine qA rfl ?_|refine qB ?_|refine qC rfl ?_|refine qD ?_|refine qE ?_|refine qF ?_|refine qG ?_|refine qH ?_);try simp (maxSteps:=1000000)(disch:=(first|omega|(simp only [qI,qJ,qK]<;>omega)|exact qL _)) only [go_sem,↓reduceIte,n0,reduceCtorEq,n1,n2,n3,n4,n5,i0,i1,i2,i3,i4,i5,i6,i7,hi6,cellsAt_two])
      have hrd := (rdP_part ver (flexB 2 ver) 2 fs_DeleteACLsRequest N t hokR hsz).1 []
      rw [List.append_nil] at hrd
      refine (FrameDeleteACLsRequest_fn (d := 1) (ok := AnyB) (ev := ev) ver (by omega) t has id number _ w6 (Own.bytes (ok := AnyB) ho6 fun _ _ => trivial) (hG.updS hE06 _root_.id _root_.id) hrd (partS_cn ver (flexB 2 ver) 2 fs_DeleteACLsRequest t hokR) hpl (by omega) (by omega)).mono ?_
      rintro _ w7 ⟨⟨v7,rfl,ho7⟩,hE7⟩
      have hE07 := hE06.trans hE7
      obtain ⟨a7,c7,rfl,_⟩ := ho7.shape
      have hi7 := hE7.blk_some hi6 _root_.id
      have hm7 := (hE6.trans hE7).blk_some hm5 _root_.id
      try simp (maxSteps:=1000000)(disch:=(first|omega|(simp only [qI,qJ,qK]<;>omega)|exact qL _)) only [go_sem,↓reduceIte,n0,reduceCtorEq,n1,n2,n3,n4,n5,i0,i1,i2,i3,i4,i5,i6,i7]
      repeat ((first | refine qA rfl ?_|refine qB ?_|refine qC rfl ?_|refine qD ?_|refine qE ?_|refine qF ?_|refine qG ?_|refine qH ?_);try simp (maxSteps:=1000000)(disch:=(first|omega|(simp only [qI,qJ,qK]<;>omega)|exact qL _)) only [go_sem,↓reduceIte,n0,reduceCtorEq,n1,n2,n3,n4,n5,i0,i1,i2,i3,i4,i5,i6,i7])
      have l1 := blk_lt hi7
      have l2 := blk_lt hm7
      refine W.drawR (.take 0 (.take 1 (.take 2 (.take 3 (.take 4 (.take 5 (.take 6 (.take 7 (.take 8 (.take 10 (.take 11 (.take 13 (.two 9 (.only 12 (.only 14 (.only 15 (.take 16 (.only 17 .done))))) 12 (.only 9 (.only 14 (.only 15 (.take 16 (.only 17 .done)))))))))))))))))) NoB mixed (by kernel_rfl) ?_
      have hEd : Ext w7 w7.drew := (Upd.refl _ _).drew
      have hE0d := hE07.trans hEd
      have hB6 := ((Own.bytes (ok := AnyB) ho6 fun _ _ => trivial).keep (Ext.keeps hE7 _)).keep (Ext.keeps hEd _)
      have hB7 := (Own.bytes (ok := AnyB) ho7 fun _ _ => trivial).keep (Ext.keeps hEd _)
      try simp (maxSteps:=1000000)(disch:=(first|omega|(simp only [qI,qJ,qK]<;>omega)|exact qL _)) only [go_sem,↓reduceIte,n0,reduceCtorEq,n1,n2,n3,n4,n5,i0,i1,i2,i3,i4,i5,i6,i7,hi7,hm7,fF,cellsAt_two,cells_strV,flat_strV,convK_strV]
      generalize w7.drew = w7d at *
      have hfl : (frameS 31 ver number (!has) id (flexB 2 ver) (partS 3 fs_DeleteACLsRequest ver (flexB 2 ver) t)).length ≤ 2 ^ 42 := by
        have := frameB_len 31 ver number (!has) id (flexB 2 ver) (partS 3 fs_DeleteACLsRequest ver (flexB 2 ver) t) (by omega)
        simp only [frameS,List.length_append,fixedS_len]
        omega
      have hsame : decide ((frameS 31 ver number (!has) id (flexB 2 ver) (partS 3 fs_DeleteACLsRequest ver (flexB 2 ver) t)) = (frameS 31 ver number (!has) id (flexB 2 ver) (partS 3 fs_DeleteACLsRequest ver (flexB 2 ver) t))) = true := decide_eq_true rfl
      refine ⟨?_,?_⟩
      · skip
        refine wp_octets (S := 9) (T := 24) (E := 5) (s := id) (by kernel_rfl) (by kernel_rfl) (by kernel_rfl) (by first | rfl | simp (maxSteps:=1000000)(disch:=(first|omega|(simp only [qI,qJ,qK]<;>omega)|exact qL _)) only [go_sem,↓reduceIte,n0,reduceCtorEq,n1,n2,n3,n4,n5,i0,i1,i2,i3,i4,i5,i6,i7]) ?_
        intro a8 k8 w8 hB8 hE8
        refine ⟨hE8,?_⟩
        try simp (maxSteps:=1000000)(disch:=(first|omega|(simp only [qI,qJ,qK]<;>omega)|exact qL _)) only [go_sem,↓reduceIte,n0,reduceCtorEq,n1,n2,n3,n4,n5,i0,i1,i2,i3,i4,i5,i6,i7]
        refine (Flexible_fn vs 2 ver fF w8).mono ?_
        rintro _ w9 ⟨rfl,hE9⟩
        have hE89 := hE8.trans hE9
        have hI := (hB8.weaken (ok' := AnyB) fun _ _ _ => trivial).keep (Ext.keeps hE9 _)
        refine ⟨hE89,?_⟩
        try simp (maxSteps:=1000000)(disch:=(first|omega|(simp only [qI,qJ,qK]<;>omega)|exact qL _)) only [go_sem,↓reduceIte,n0,reduceCtorEq,n1,n2,n3,n4,n5,i0,i1,i2,i3,i4,i5,i6,i7]
        refine (Frame_fn 31 ver number hnum has (flexB 2 ver) id (partS 3 fs_DeleteACLsRequest ver (flexB 2 ver) t) _ _ w9 hI (hB6.keep (Ext.keeps hE89 _)) (by omega) hpl).mono ?_
        rintro r10 w10 ⟨ho10,hE10⟩
        have hE810 := hE89.trans hE10
        refine ⟨hE810,?_⟩
        obtain ⟨a10,c10,rfl,_⟩ := ho10.shape
        try simp (maxSteps:=1000000)(disch:=(first|omega|(simp only [qI,qJ,qK]<;>omega)|exact qL _)) only [go_sem,↓reduceIte,n0,reduceCtorEq,n1,n2,n3,n4,n5,i0,i1,i2,i3,i4,i5,i6,i7]
        refine (Same_fn (ok := AnyB) (frameS 31 ver number (!has) id (flexB 2 ver) (partS 3 fs_DeleteACLsRequest ver (flexB 2 ver) t)) (frameS 31 ver number (!has) id (flexB 2 ver) (partS 3 fs_DeleteACLsRequest ver (flexB 2 ver) t)) _ _ w10 (hB7.keep (Ext.keeps hE810 _)) (Own.bytes ho10 fun _ _ => trivial) (by omega)).mono ?_
        rintro _ w11 ⟨rfl,hE11⟩
        refine ⟨hE810.trans hE11,?_⟩
        try simp (maxSteps:=1000000)(disch:=(first|omega|(simp only [qI,qJ,qK]<;>omega)|exact qL _)) only [go_sem,↓reduceIte,n0,reduceCtorEq,n1,n2,n3,n4,n5,i0,i1,i2,i3,i4,i5,i6,i7,hsame]
        try refine ⟨hE810.trans hE11,?_⟩
        repeat ((first | refine qA rfl ?_|refine qB ?_|refine qC rfl ?_|refine qD ?_|refine qE ?_|refine qF ?_|refine qG ?_|refine qH ?_);try simp (maxSteps:=1000000)(disch:=(first|omega|(simp only [qI,qJ,qK]<;>omega)|exact qL _)) only [go_sem,↓reduceIte,n0,reduceCtorEq,n1,n2,n3,n4,n5,i0,i1,i2,i3,i4,i5,i6,i7,hsame])
        all_goals exact hE0d.trans (hE810.trans hE11)
      · skip
        refine (Flexible_fn vs 2 ver fF w7d).mono ?_
        rintro _ w8 ⟨rfl,hE8⟩
        refine ⟨hE8,?_⟩
        try simp (maxSteps:=1000000)(disch:=(first|omega|(simp only [qI,qJ,qK]<;>omega)|exact qL _)) only [go_sem,↓reduceIte,n0,reduceCtorEq,n1,n2,n3,n4,n5,i0,i1,i2,i3,i4,i5,i6,i7,convK_strV]
        refine wp_octets (S := 9) (T := 24) (E := 5) (s := id) (by kernel_rfl) (by kernel_rfl) (by kernel_rfl) (by first | rfl | simp (maxSteps:=1000000)(disch:=(first|omega|(simp only [qI,qJ,qK]<;>omega)|exact qL _)) only [go_sem,↓reduceIte,n0,reduceCtorEq,n1,n2,n3,n4,n5,i0,i1,i2,i3,i4,i5,i6,i7]) ?_
        intro a8 k8 w9 hB8 hE9
        have hE89 := hE8.trans hE9
        have hI := hB8.weaken (ok' := AnyB) fun _ _ _ => trivial
        refine ⟨hE89,?_⟩
        try simp (maxSteps:=1000000)(disch:=(first|omega|(simp only [qI,qJ,qK]<;>omega)|exact qL _)) only [go_sem,↓reduceIte,n0,reduceCtorEq,n1,n2,n3,n4,n5,i0,i1,i2,i3,i4,i5,i6,i7]
        refine (Frame_fn 31 ver number hnum has (flexB 2 ver) id (partS 3 fs_DeleteACLsRequest ver (flexB 2 ver) t) _ _ w9 hI (hB6.keep (Ext.keeps hE89 _)) (by omega) hpl).mono ?_
        rintro r10 w10 ⟨ho10,hE10⟩
        have hE810 := hE89.trans hE10
        refine ⟨hE810,?_⟩
        obtain ⟨a10,c10,rfl,_⟩ := ho10.shape
        try simp (maxSteps:=1000000)(disch:=(first|omega|(simp only [qI,qJ,qK]<;>omega)|exact qL _)) only [go_sem,↓reduceIte,n0,reduceCtorEq,n1,n2,n3,n4,n5,i0,i1,i2,i3,i4,i5,i6,i7]
        refine (Same_fn (ok := AnyB) (frameS 31 ver number (!has) id (flexB 2 ver) (partS 3 fs_DeleteACLsRequest ver (flexB 2 ver) t)) (frameS 31 ver number (!has) id (flexB 2 ver) (partS 3 fs_DeleteACLsRequest ver (flexB 2 ver) t)) _ _ w10 (hB7.keep (Ext.keeps hE810 _)) (Own.bytes ho10 fun _ _ => trivial) (by omega)).mono ?_
        rintro _ w11 ⟨rfl,hE11⟩
        refine ⟨hE810.trans hE11,?_⟩
        try simp (maxSteps:=1000000)(disch:=(first|omega|(simp only [qI,qJ,qK]<;>omega)|exact qL _)) only [go_sem,↓reduceIte,n0,reduceCtorEq,n1,n2,n3,n4,n5,i0,i1,i2,i3,i4,i5,i6,i7,hsame]
        try refine ⟨hE810.trans hE11,?_⟩
        repeat ((first | refine qA rfl ?_|refine qB ?_|refine qC rfl ?_|refine qD ?_|refine qE ?_|refine qF ?_|refine qG ?_|refine qH ?_);try simp (maxSteps:=1000000)(disch:=(first|omega|(simp only [qI,qJ,qK]<;>omega)|exact qL _)) only [go_sem,↓reduceIte,n0,reduceCtorEq,n1,n2,n3,n4,n5,i0,i1,i2,i3,i4,i5,i6,i7,hsame])
        all_goals exact hE0d.trans (hE810.trans hE11)

end Ms

