/- A part of the proof: see the last text. -/
import Derived.Test.YtfeaoncgnhhjbaaGreatDoorC07
import Derived.Test.YtfeaoncgnhhjbaaGreatDoorC10
import Derived.Test.YtfeaoncgnhhjbaaGreatDoorDescribeTopicPartitionsResponseP0
set_option linter.unusedSimpArgs false
set_option linter.unusedVariables false
namespace Ms
open Go.World renaming size_alloc → qI
open Ms renaming size_wr → qJ,size_drew → qK,not_noB → qL
open W renaming seqR → qA,seq → qB,regR → qC,condK → qD,block → qE,skip → qF,ret → qG,exit → qH
open Nat renaming reduceEqDiff → n0,reduceAdd → n1,reduceMul → n2,reduceSub → n3,reduceLT → n4,reduceLeDiff → n5
open Int renaming reduceEq → i0,reduceLT → i1,reduceLE → i2,reduceNeg → i3,reduceAdd → i4,reduceSub → i5,reduceMul → i6,reduceToNat → i7
set_option maxRecDepth 8000
open Go Go.Proofs Go.Shelf
attribute [local congr] W_congr WPsq_congr WPp_congr optK_congr addrK_congr intK_congr boolK_congr sliceK_congr tupleK_congr funcK_congr Fn_congr rawK_congr takeK_congr stepK_congr convK_congr aggK_congr

set_option maxHeartbeats 4000000 in
theorem appQ_0 {d B : Nat} {okM : Blocks} {ver : Int} (hlo : 0 ≤ ver) (hhi : ver ≤ 0) (t : Tree) (cells : List Value) (v : Value) (s : List UInt8) (w : World) {vb : Nat} (ho : OwnBy 5 B w v s) (hB : B ≤ w.heap.size) (hvb : blk w vb = some ((.int .i16 ver :: cells).toArray,63,(0,0)))
    (hR : RepS true (d + 3) fsr_Q okM w t cells) (hfit : FitW ver (d + 3) fsr_Q t) (hd : ∀ b,b < w.heap.size → okM b → ¬ ownB v b) (hdv : ¬ ownB v vb) (hlen : s.length + (partS (d + 3) fsr_Q ver true t).length ≤ 2 ^ 41) :
    Fn Tryz.prog 19 #[.pointer (some ⟨vb,0,none⟩),v] w fun r w' => AppR 5 B w v s (partS (d + 3) fsr_Q ver true t) r w' := by
  obtain ⟨⟨g_0,g_1,g_2,-⟩,hfu⟩ := hfit
  replace g_0 : hasS fQ_0 ver = true → FitWF (FitW ver (d + 2)) ver fQ_0 (t.at 0) := g_0
  have hh_0 : hasS fQ_0 ver = true := hasS_t (by show (0 : Int) ≤ ver;omega) (by show (-1 : Int) < 0 ∨ ver ≤ (-1 : Int);omega)
  replace g_0 := g_0 hh_0
  replace g_1 : hasS frQ_1 ver = true → FitWF (FitW ver (d + 2)) ver frQ_1 (t.at 1) := g_1
  have hh_1 : hasS frQ_1 ver = true := hasS_t (by show (0 : Int) ≤ ver;omega) (by show (-1 : Int) < 0 ∨ ver ≤ (-1 : Int);omega)
  replace g_1 := g_1 hh_1
  replace g_2 : hasS fQ_2 ver = true → FitWF (FitW ver (d + 2)) ver fQ_2 (t.at 2) := g_2
  have hh_2 : hasS fQ_2 ver = true := hasS_t (by show (0 : Int) ≤ ver;omega) (by show (-1 : Int) < 0 ∨ ver ≤ (-1 : Int);omega)
  replace g_2 := g_2 hh_2
  obtain ⟨cs,q,hcs,hL,hT⟩ := hR.inv
  obtain ⟨c_0,e_0,rfl,h_0,c_1,e_1,rfl,h_1,c_2,e_2,rfl,h_2,rfl⟩ := hL
  replace h_0 : RepF (RepS true (d + 2)) (szS true (d + 2)) fQ_0 okM w (t.at 0) c_0 := h_0
  replace h_1 : RepF (RepS true (d + 2)) (szS true (d + 2)) frQ_1 okM w (t.at 1) c_1 := h_1
  replace h_2 : RepF (RepS true (d + 2)) (szS true (d + 2)) fQ_2 okM w (t.at 2) c_2 := h_2
  obtain rfl := (RepF_num (by decide)).1 h_0
  obtain ⟨p_1,rfl,hs_1⟩ := RepF_listW g_1 rfl (by decide) h_1
  obtain ⟨ab_1,ac_1,rfl,_⟩ := SlR.shape hs_1
  have hgl_1 := g_1.list rfl
  have hll_1 := hgl_1.1
  obtain ⟨p_2,rfl,hp_2⟩ := (RepF_opt rfl (by decide)).1 h_2
  have hfp_2 : flat p_2 = true := hp_2.flat
  obtain ⟨qm,rfl⟩ := hT.shape
  have hv : blk w vb = some (#[.int .i16 ver,.int .i32 (IntKind.i32.wrap (t.at 0).n),.slice ab_1 (t.at 1).l.length ac_1,p_2,.map qm],63,(0,0)) := by rw [hvb,hcs];rfl
  clear hvb hcs
  obtain ⟨X_0,hXX_0⟩ : ∃ X,X = fixedS (t.at 0).n 4 := ⟨_,rfl⟩
  obtain ⟨XL_1,hXL_1⟩ : ∃ X,X = uvarS ((t.at 1).l.length + 1) := ⟨_,rfl⟩
  obtain ⟨XE_1,hXE_1⟩ : ∃ X,X = (t.at 1).l.flatMap (fun x => partS (d + 2) fsr_X2 ver true x) := ⟨_,rfl⟩
  obtain ⟨X_2,hXX_2⟩ : ∃ X,X = if nullS fQ_2 ver (t.at 2) = true then fixedS (-1) 1 else fixedS 1 1 ++ partS (d + 2) fs_X1 ver true (t.at 2) := ⟨_,rfl⟩
  obtain ⟨XU,hXU⟩ : ∃ X,X = uvarS t.u.length := ⟨_,rfl⟩
  obtain ⟨XT,hXT⟩ : ∃ X,X = t.u.flatMap oneTag := ⟨_,rfl⟩
  have hP : partS (d + 3) fsr_Q ver true t = (X_0 ++ ((XL_1 ++ XE_1) ++ (X_2 ++ []))) ++ (XU ++ XT) := by rw [hXU,hXT];exact partS_yes rfl hfu (plainL_has (by decide) hh_0 ((fieldS_num 3 rfl (by decide)).trans hXX_0.symm) (plainL_has (by decide) hh_1 ((fieldS_list_t (g := (fun x => partS (d + 2) fsr_X2 ver true x)) g_1 rfl (by decide) (fun x _ => valueS_part)).trans (by rw [hXL_1,hXE_1])) (plainL_has (by decide) hh_2 ((fieldS_opt rfl (by decide)).trans hXX_2.symm) rfl)))
  rw [hP] at hlen
  simp only [List.length_append,List.length_nil] at hlen
  have hdK : ∀ {r : Value} {w' : World} {add : List UInt8},AppR 5 B w v s add r w' → ∀ b,b < w'.heap.size → OkS okM w.heap.size b → ¬ ownB r b := fun h b _ hk ho => (h.frame b ho).elim (hd b hk.2 hk.1) (fun h => by have := hk.2;omega)
  have ownK : ∀ {r : Value} {w' : World} {add : List UInt8} {b : Nat},AppR 5 B w v s add r w' → b < w.heap.size → ¬ ownB v b → ¬ ownB r b := fun h hb hn ho => (h.frame _ ho).elim hn (fun h => by omega)
  have ha0 : AppR 5 B w v s [] v w := AppR.refl ho
  obtain ⟨w0,hw0⟩ : ∃ w0,w0 = w := ⟨_,rfl⟩
  have hB0 := hB
  have hv_0 := hv
  refine fn_of_W Tryz.func19 rfl Tryz.results19 Tryz.ntmps19 rfl ?_
  repeat ((first | refine qA rfl ?_|apply qB|refine qC rfl ?_|apply qD|apply qE|apply qF|apply qG|apply qH);try simp (maxSteps:=1000000)(disch:=(first|omega|(simp only [qI,qJ,qK]<;>omega)|exact qL _)) only [go_sem,↓reduceIte,n0,reduceCtorEq,n1,n2,n3,n4,n5,i0,i1,i2,i3,i4,i5,i6,i7,hv_0,hfp_2])
  refine (AppendInt32_fn _ _ _ ha0.own hB0 _ (by simp only [List.length_append,List.length_nil];omega)).mono ?_
  rintro r1 w1 hc1
  rw [wrap32,← hXX_0] at hc1
  have ha1 := ha0.trans hc1
  have hB1 : B ≤ w1.heap.size := Nat.le_trans hB ha1.upd.size
  have hv_1 := ha1.upd.blk_some hv hdv
  repeat ((first | refine qA rfl ?_|apply qB|refine qC rfl ?_|apply qD|apply qE|apply qF|apply qG|apply qH);try simp (maxSteps:=1000000)(disch:=(first|omega|(simp only [qI,qJ,qK]<;>omega)|exact qL _)) only [go_sem,↓reduceIte,n0,reduceCtorEq,n1,n2,n3,n4,n5,i0,i1,i2,i3,i4,i5,i6,i7,hv_1,hfp_2])
  refine (AppendCompactArrayLen_fn _ _ _ ha1.own hB1 (t.at 1).l.length hll_1 (by simp only [List.length_append,List.length_nil];omega)).mono ?_
  rintro r2 w2 hc2
  rw [← hXL_1] at hc2
  have ha2 := ha1.trans hc2
  have hB2 : B ≤ w2.heap.size := Nat.le_trans hB ha2.upd.size
  have hv_2 := ha2.upd.blk_some hv hdv
  repeat ((first | refine qA rfl ?_|apply qB|refine qC rfl ?_|apply qD|apply qE|apply qF|apply qG|apply qH);try simp (maxSteps:=1000000)(disch:=(first|omega|(simp only [qI,qJ,qK]<;>omega)|exact qL _)) only [go_sem,↓reduceIte,n0,reduceCtorEq,n1,n2,n3,n4,n5,i0,i1,i2,i3,i4,i5,i6,i7,hv_2,hfp_2])
  have hadd1 := ha2
  refine W.exitJ 0 (fun ρ w' => ∃ r,ρ 1 = r ∧ ρ 0 = .pointer (some ⟨vb,0,none⟩) ∧ ρ 5 = .int .i16 ver ∧ ρ 6 = .bool true ∧ AppR 5 B w v s (([] ++ X_0 ++ XL_1) ++ XE_1) r w')
    (W.loop (fun ρ w' => ∃ (j : Nat) (r : Value),j ≤ (t.at 1).l.length ∧ ρ 71 = .int .i64 j ∧ ρ 70 = .int .i64 (t.at 1).l.length ∧ ρ 8 = .slice ab_1 (t.at 1).l.length ac_1 ∧ ρ 1 = r ∧ ρ 0 = .pointer (some ⟨vb,0,none⟩) ∧ ρ 5 = .int .i16 ver ∧ ρ 6 = .bool true ∧ AppR 5 B w v s (([] ++ X_0 ++ XL_1) ++ ((t.at 1).l.take j).flatMap (fun x => partS (d + 2) fsr_X2 ver true x)) r w')
      (fun ρ _ => (t.at 1).l.length - (RowKit.intOf (ρ 71)).toNat) ?_ ?_) ?_
  · refine ⟨0,_,Nat.zero_le _,?_,?_,?_,?_,?_,?_,?_,ha2.eqs (by rw [List.take_zero,List.flatMap_nil,List.append_nil])⟩ <;> simp (maxSteps:=1000000)(disch:=(first|omega|(simp only [qI,qJ,qK]<;>omega)|exact qL _)) only [go_sem,↓reduceIte,n0,reduceCtorEq,n1,n2,n3,n4,n5,i0,i1,i2,i3,i4,i5,i6,i7]
    all_goals rfl
  · rintro ρ w3 ⟨j1,r3,hj1,hI1,hN1,hS1,hr1_1,hr1_0,hr1_5,hr1_6,ha3⟩
    have hB3 : B ≤ w3.heap.size := Nat.le_trans hB ha3.upd.size
    have hv_3 := ha3.upd.blk_some hv hdv
    by_cases hlt1 : j1 < (t.at 1).l.length
    · obtain ⟨_,b1,o1,x1,ce1,hb1,hok1,hx1,hbl1,hxs1,hxe1,hq1,hRe1⟩ := SlR.get (size := 22) (by decide) hs_1 hlt1
      subst hb1
      have hcat1 : (t.at 1).l.take (j1 + 1) = (t.at 1).l.take j1 ++ [(t.at 1).l[j1]] := List.take_succ_eq_append_getElem hlt1
      have htl1 := take_flatMap_len (t.at 1).l (fun x => partS (d + 2) fsr_X2 ver true x) (j1 + 1)
      rw [← hXE_1,hcat1,List.flatMap_append,List.flatMap_cons,List.flatMap_nil,List.append_nil] at htl1
      have hge1 := hgl_1.2 _ (List.getElem_mem hlt1)
      generalize (t.at 1).l[j1] = y1 at *
      have hnx1 := hd b1 hbl1 hok1
      obtain ⟨T1,hTT1⟩ : ∃ T,T = ((t.at 1).l.take j1).flatMap (fun x => partS (d + 2) fsr_X2 ver true x) := ⟨_,rfl⟩
      rw [← hTT1] at ha3 htl1
      have hx1_3 := ha3.upd.blk_some hx1 hnx1
      replace hRe1 : RepS true (d + 2) fsr_X2 okM w y1 ce1 := Rep1_part.1 hRe1
      have hfe1 : FitW ver (d + 2) fsr_X2 y1 := hge1.2 rfl
      obtain ⟨⟨ge1_0,ge1_1,ge1_2,ge1_3,ge1_4,ge1_5,-⟩,hfue1⟩ := hfe1
      replace ge1_0 : hasS fX2_0 ver = true → FitWF (FitW ver (d + 1)) ver fX2_0 (y1.at 0) := ge1_0
      have hhe1_0 : hasS fX2_0 ver = true := hasS_t (by show (0 : Int) ≤ ver;omega) (by show (-1 : Int) < 0 ∨ ver ≤ (-1 : Int);omega)
      replace ge1_0 := ge1_0 hhe1_0
      replace ge1_1 : hasS fX2_1 ver = true → FitWF (FitW ver (d + 1)) ver fX2_1 (y1.at 1) := ge1_1
      have hhe1_1 : hasS fX2_1 ver = true := hasS_t (by show (0 : Int) ≤ ver;omega) (by show (-1 : Int) < 0 ∨ ver ≤ (-1 : Int);omega)
      replace ge1_1 := ge1_1 hhe1_1
      replace ge1_2 : hasS fX2_2 ver = true → FitWF (FitW ver (d + 1)) ver fX2_2 (y1.at 2) := ge1_2
      have hhe1_2 : hasS fX2_2 ver = true := hasS_t (by show (0 : Int) ≤ ver;omega) (by show (-1 : Int) < 0 ∨ ver ≤ (-1 : Int);omega)
      replace ge1_2 := ge1_2 hhe1_2
      replace ge1_3 : hasS fX2_3 ver = true → FitWF (FitW ver (d + 1)) ver fX2_3 (y1.at 3) := ge1_3
      have hhe1_3 : hasS fX2_3 ver = true := hasS_t (by show (0 : Int) ≤ ver;omega) (by show (-1 : Int) < 0 ∨ ver ≤ (-1 : Int);omega)
      replace ge1_3 := ge1_3 hhe1_3
      replace ge1_4 : hasS frX2_4 ver = true → FitWF (FitW ver (d + 1)) ver frX2_4 (y1.at 4) := ge1_4
      have hhe1_4 : hasS frX2_4 ver = true := hasS_t (by show (0 : Int) ≤ ver;omega) (by show (-1 : Int) < 0 ∨ ver ≤ (-1 : Int);omega)
      replace ge1_4 := ge1_4 hhe1_4
      replace ge1_5 : hasS fX2_5 ver = true → FitWF (FitW ver (d + 1)) ver fX2_5 (y1.at 5) := ge1_5
      have hhe1_5 : hasS fX2_5 ver = true := hasS_t (by show (0 : Int) ≤ ver;omega) (by show (-1 : Int) < 0 ∨ ver ≤ (-1 : Int);omega)
      replace ge1_5 := ge1_5 hhe1_5
      obtain ⟨cse1,qe1,hcse1,hLe1,hTe1⟩ := hRe1.inv
      obtain ⟨ce1_0,ee1_0,rfl,he1_0,ce1_1,ee1_1,rfl,he1_1,ce1_2,ee1_2,rfl,he1_2,ce1_3,ee1_3,rfl,he1_3,ce1_4,ee1_4,rfl,he1_4,ce1_5,ee1_5,rfl,he1_5,rfl⟩ := hLe1
      replace he1_0 : RepF (RepS true (d + 1)) (szS true (d + 1)) fX2_0 okM w (y1.at 0) ce1_0 := he1_0
      replace he1_1 : RepF (RepS true (d + 1)) (szS true (d + 1)) fX2_1 okM w (y1.at 1) ce1_1 := he1_1
      replace he1_2 : RepF (RepS true (d + 1)) (szS true (d + 1)) fX2_2 okM w (y1.at 2) ce1_2 := he1_2
      replace he1_3 : RepF (RepS true (d + 1)) (szS true (d + 1)) fX2_3 okM w (y1.at 3) ce1_3 := he1_3
      replace he1_4 : RepF (RepS true (d + 1)) (szS true (d + 1)) frX2_4 okM w (y1.at 4) ce1_4 := he1_4
      replace he1_5 : RepF (RepS true (d + 1)) (szS true (d + 1)) fX2_5 okM w (y1.at 5) ce1_5 := he1_5
      obtain rfl := (RepF_num (by decide)).1 he1_0
      obtain ⟨pe1_1,rfl,hpe1_1⟩ := (RepF_ptr rfl (by decide)).1 he1_1
      obtain rfl := (RepF_uuid rfl).1 he1_2
      have hx16e1_2 : ((uuidS (y1.at 2).s).map byteV).length = 16 := by rw [List.length_map,uuidS_len]
      have hfxe1_2 := flat_bytes (uuidS (y1.at 2).s)
      generalize hXe1_2 : (uuidS (y1.at 2).s).map byteV = Ze1_2 at *
      obtain ⟨ze1_2_0,ze1_2_1,ze1_2_2,ze1_2_3,ze1_2_4,ze1_2_5,ze1_2_6,ze1_2_7,ze1_2_8,ze1_2_9,ze1_2_10,ze1_2_11,ze1_2_12,ze1_2_13,ze1_2_14,ze1_2_15,rfl⟩ := list16 hx16e1_2
      simp only [List.all_cons,List.all_nil,Bool.and_true,Bool.and_eq_true] at hfxe1_2
      obtain ⟨fze1_2_0,fze1_2_1,fze1_2_2,fze1_2_3,fze1_2_4,fze1_2_5,fze1_2_6,fze1_2_7,fze1_2_8,fze1_2_9,fze1_2_10,fze1_2_11,fze1_2_12,fze1_2_13,fze1_2_14,fze1_2_15⟩ := hfxe1_2
      obtain rfl := (RepF_num (by decide)).1 he1_3
      obtain ⟨pe1_4,rfl,hse1_4⟩ := RepF_listW ge1_4 rfl (by decide) he1_4
      obtain ⟨abe1_4,ace1_4,rfl,_⟩ := SlR.shape hse1_4
      have hgle1_4 := ge1_4.list rfl
      have hlle1_4 := hgle1_4.1
      obtain rfl := (RepF_num (by decide)).1 he1_5
      obtain ⟨qme1,rfl⟩ := hTe1.shape
      subst hcse1
      have hq1_0 : x1.1[o1 + j1 * 22]? = some (.int .i16 (IntKind.i16.wrap (y1.at 0).n)) := hq1 0 (by decide)
      have hq1_1 : x1.1[o1 + (j1 * 22 + 1)]? = some (pe1_1) := hq1 1 (by decide)
      have hq1_2 : x1.1[o1 + (j1 * 22 + 2)]? = some (ze1_2_0) := hq1 2 (by decide)
      have hq1_3 : x1.1[o1 + (j1 * 22 + 3)]? = some (ze1_2_1) := hq1 3 (by decide)
      have hq1_4 : x1.1[o1 + (j1 * 22 + 4)]? = some (ze1_2_2) := hq1 4 (by decide)
      have hq1_5 : x1.1[o1 + (j1 * 22 + 5)]? = some (ze1_2_3) := hq1 5 (by decide)
      have hq1_6 : x1.1[o1 + (j1 * 22 + 6)]? = some (ze1_2_4) := hq1 6 (by decide)
      have hq1_7 : x1.1[o1 + (j1 * 22 + 7)]? = some (ze1_2_5) := hq1 7 (by decide)
      have hq1_8 : x1.1[o1 + (j1 * 22 + 8)]? = some (ze1_2_6) := hq1 8 (by decide)
      have hq1_9 : x1.1[o1 + (j1 * 22 + 9)]? = some (ze1_2_7) := hq1 9 (by decide)
      have hq1_10 : x1.1[o1 + (j1 * 22 + 10)]? = some (ze1_2_8) := hq1 10 (by decide)
      have hq1_11 : x1.1[o1 + (j1 * 22 + 11)]? = some (ze1_2_9) := hq1 11 (by decide)
      have hq1_12 : x1.1[o1 + (j1 * 22 + 12)]? = some (ze1_2_10) := hq1 12 (by decide)
      have hq1_13 : x1.1[o1 + (j1 * 22 + 13)]? = some (ze1_2_11) := hq1 13 (by decide)
      have hq1_14 : x1.1[o1 + (j1 * 22 + 14)]? = some (ze1_2_12) := hq1 14 (by decide)
      have hq1_15 : x1.1[o1 + (j1 * 22 + 15)]? = some (ze1_2_13) := hq1 15 (by decide)
      have hq1_16 : x1.1[o1 + (j1 * 22 + 16)]? = some (ze1_2_14) := hq1 16 (by decide)
      have hq1_17 : x1.1[o1 + (j1 * 22 + 17)]? = some (ze1_2_15) := hq1 17 (by decide)
      have hq1_18 : x1.1[o1 + (j1 * 22 + 18)]? = some (.bool (decide ((y1.at 3).n % 2 = 1))) := hq1 18 (by decide)
      have hq1_19 : x1.1[o1 + (j1 * 22 + 19)]? = some (.slice abe1_4 (y1.at 4).l.length ace1_4) := hq1 19 (by decide)
      have hq1_20 : x1.1[o1 + (j1 * 22 + 20)]? = some (.int .i32 (IntKind.i32.wrap (y1.at 5).n)) := hq1 20 (by decide)
      have hq1_21 : x1.1[o1 + (j1 * 22 + 21)]? = some (.map qme1) := hq1 21 (by decide)
      have hxu1_2 : cellsAt x1.1 (o1 + (j1 * 22 + 2)) 16 = some (.agg #[ze1_2_0,ze1_2_1,ze1_2_2,ze1_2_3,ze1_2_4,ze1_2_5,ze1_2_6,ze1_2_7,ze1_2_8,ze1_2_9,ze1_2_10,ze1_2_11,ze1_2_12,ze1_2_13,ze1_2_14,ze1_2_15]) := by
        refine cellsAt_of (l := [ze1_2_0,ze1_2_1,ze1_2_2,ze1_2_3,ze1_2_4,ze1_2_5,ze1_2_6,ze1_2_7,ze1_2_8,ze1_2_9,ze1_2_10,ze1_2_11,ze1_2_12,ze1_2_13,ze1_2_14,ze1_2_15]) (fun j hj => ?_) rfl (by omega)
        rw [show o1 + (j1 * 22 + 2) + j = o1 + (j1 * 22 + (2 + j)) by omega]
        exact (hq1 (2 + j) (by omega)).trans (get_mid (pre := [.int .i16 (IntKind.i16.wrap (y1.at 0).n),pe1_1]) (xs := [ze1_2_0,ze1_2_1,ze1_2_2,ze1_2_3,ze1_2_4,ze1_2_5,ze1_2_6,ze1_2_7,ze1_2_8,ze1_2_9,ze1_2_10,ze1_2_11,ze1_2_12,ze1_2_13,ze1_2_14,ze1_2_15]) (post := [.bool (decide ((y1.at 3).n % 2 = 1)),.slice abe1_4 (y1.at 4).l.length ace1_4,.int .i32 (IntKind.i32.wrap (y1.at 5).n),.map qme1]) hj)
      obtain ⟨Xe1_0,hXXe1_0⟩ : ∃ X,X = fixedS (y1.at 0).n 2 := ⟨_,rfl⟩
      obtain ⟨Xe1_1,hXXe1_1⟩ : ∃ X,X = if (y1.at 1).null = true then [0] else uvarS ((y1.at 1).s.length + 1) ++ (y1.at 1).s := ⟨_,rfl⟩
      obtain ⟨Xe1_2,hXXe1_2⟩ : ∃ X,X = uuidS (y1.at 2).s := ⟨_,rfl⟩
      obtain ⟨Xe1_3,hXXe1_3⟩ : ∃ X,X = [if decide ((y1.at 3).n % 2 = 1) = true then (1 : UInt8) else 0] := ⟨_,rfl⟩
      obtain ⟨XLe1_4,hXLe1_4⟩ : ∃ X,X = uvarS ((y1.at 4).l.length + 1) := ⟨_,rfl⟩
      obtain ⟨XEe1_4,hXEe1_4⟩ : ∃ X,X = (y1.at 4).l.flatMap (fun x => partS (d + 1) fsr_X0 ver true x) := ⟨_,rfl⟩
      obtain ⟨Xe1_5,hXXe1_5⟩ : ∃ X,X = fixedS (y1.at 5).n 4 := ⟨_,rfl⟩
      obtain ⟨XUe1,hXUe1⟩ : ∃ X,X = uvarS y1.u.length := ⟨_,rfl⟩
      obtain ⟨XTe1,hXTe1⟩ : ∃ X,X = y1.u.flatMap oneTag := ⟨_,rfl⟩
      have hPe1 : partS (d + 2) fsr_X2 ver true y1 = (Xe1_0 ++ (Xe1_1 ++ (Xe1_2 ++ (Xe1_3 ++ ((XLe1_4 ++ XEe1_4) ++ (Xe1_5 ++ [])))))) ++ (XUe1 ++ XTe1) := by rw [hXUe1,hXTe1];exact partS_yes rfl hfue1 (plainL_has (by decide) hhe1_0 ((fieldS_num 2 rfl (by decide)).trans hXXe1_0.symm) (plainL_has (by decide) hhe1_1 ((fieldS_ptr_t ge1_1 rfl (by decide)).trans hXXe1_1.symm) (plainL_has (by decide) hhe1_2 ((fieldS_uuid rfl).trans hXXe1_2.symm) (plainL_has (by decide) hhe1_3 ((fieldS_bool rfl).trans hXXe1_3.symm) (plainL_has (by decide) hhe1_4 ((fieldS_list_t (g := (fun x => partS (d + 1) fsr_X0 ver true x)) ge1_4 rfl (by decide) (fun x _ => valueS_part)).trans (by rw [hXLe1_4,hXEe1_4])) (plainL_has (by decide) hhe1_5 ((fieldS_num 3 rfl (by decide)).trans hXXe1_5.symm) rfl))))))
      rw [hPe1] at htl1
      simp only [List.length_append,List.length_nil] at htl1
      repeat ((first | refine qA rfl ?_|apply qB|refine qC rfl ?_|apply qD|apply qE|apply qF|apply qG|apply qH);try simp (maxSteps:=1000000)(disch:=(first|omega|(simp only [qI,qJ,qK]<;>omega)|exact qL _)) only [go_sem,↓reduceIte,n0,reduceCtorEq,n1,n2,n3,n4,n5,i0,i1,i2,i3,i4,i5,i6,i7,hv_3,hx1_3,hfp_2,Int.toNat_natCast,Nat.mul_one,hq1_0,hq1_1,hq1_2,hq1_3,hq1_4,hq1_5,hq1_6,hq1_7,hq1_8,hq1_9,hq1_10,hq1_11,hq1_12,hq1_13,hq1_14,hq1_15,hq1_16,hq1_17,hq1_18,hq1_19,hq1_20,hq1_21,fze1_2_0,fze1_2_1,fze1_2_2,fze1_2_3,fze1_2_4,fze1_2_5,fze1_2_6,fze1_2_7,fze1_2_8,fze1_2_9,fze1_2_10,fze1_2_11,fze1_2_12,fze1_2_13,fze1_2_14,fze1_2_15,hxu1_2,hr1_1,hr1_0,hr1_5,hr1_6,hI1,hN1,hS1])
      refine (AppendInt16_fn _ _ _ ha3.own hB3 _ (by simp only [List.length_append,List.length_nil];omega)).mono ?_
      rintro r4 w4 hc4
      rw [wrap16,← hXXe1_0] at hc4
      have ha4 := ha3.trans hc4
      have hB4 : B ≤ w4.heap.size := Nat.le_trans hB ha4.upd.size
      have hv_4 := ha4.upd.blk_some hv hdv
      have hx1_4 := ha4.upd.blk_some hx1 hnx1
      repeat ((first | refine qA rfl ?_|apply qB|refine qC rfl ?_|apply qD|apply qE|apply qF|apply qG|apply qH);try simp (maxSteps:=1000000)(disch:=(first|omega|(simp only [qI,qJ,qK]<;>omega)|exact qL _)) only [go_sem,↓reduceIte,n0,reduceCtorEq,n1,n2,n3,n4,n5,i0,i1,i2,i3,i4,i5,i6,i7,hv_4,hx1_4,hfp_2,Int.toNat_natCast,Nat.mul_one,hq1_0,hq1_1,hq1_2,hq1_3,hq1_4,hq1_5,hq1_6,hq1_7,hq1_8,hq1_9,hq1_10,hq1_11,hq1_12,hq1_13,hq1_14,hq1_15,hq1_16,hq1_17,hq1_18,hq1_19,hq1_20,hq1_21,fze1_2_0,fze1_2_1,fze1_2_2,fze1_2_3,fze1_2_4,fze1_2_5,fze1_2_6,fze1_2_7,fze1_2_8,fze1_2_9,fze1_2_10,fze1_2_11,fze1_2_12,fze1_2_13,fze1_2_14,fze1_2_15,hxu1_2,hr1_1,hr1_0,hr1_5,hr1_6,hI1,hN1,hS1])
      refine (AppendCompactNullableString_fn (ok := okM) _ _ _ ha4.own hB4 _ (y1.at 1).null (y1.at 1).s (hpe1_1.keep (ha4.upd.keeps hd)) (ge1_1.text (.inl rfl)) (by simp only [List.length_append,List.length_nil];omega)).mono ?_
      rintro r5 w5 hc5
      rw [← hXXe1_1] at hc5
      have ha5 := ha4.trans hc5
      have hB5 : B ≤ w5.heap.size := Nat.le_trans hB ha5.upd.size
      have hv_5 := ha5.upd.blk_some hv hdv
      have hx1_5 := ha5.upd.blk_some hx1 hnx1
      have hcze1_2 : cellsAt #[ze1_2_0,ze1_2_1,ze1_2_2,ze1_2_3,ze1_2_4,ze1_2_5,ze1_2_6,ze1_2_7,ze1_2_8,ze1_2_9,ze1_2_10,ze1_2_11,ze1_2_12,ze1_2_13,ze1_2_14,ze1_2_15] 0 16 = some (.agg #[ze1_2_0,ze1_2_1,ze1_2_2,ze1_2_3,ze1_2_4,ze1_2_5,ze1_2_6,ze1_2_7,ze1_2_8,ze1_2_9,ze1_2_10,ze1_2_11,ze1_2_12,ze1_2_13,ze1_2_14,ze1_2_15]) := cellsAt_full rfl
      repeat ((first | refine qA rfl ?_|apply qB|refine qC rfl ?_|apply qD|apply qE|apply qF|apply qG|apply qH);try simp (maxSteps:=1000000)(disch:=(first|omega|(simp only [qI,qJ,qK]<;>omega)|exact qL _)) only [go_sem,↓reduceIte,n0,reduceCtorEq,n1,n2,n3,n4,n5,i0,i1,i2,i3,i4,i5,i6,i7,hv_5,hx1_5,hfp_2,Int.toNat_natCast,Nat.mul_one,hq1_0,hq1_1,hq1_2,hq1_3,hq1_4,hq1_5,hq1_6,hq1_7,hq1_8,hq1_9,hq1_10,hq1_11,hq1_12,hq1_13,hq1_14,hq1_15,hq1_16,hq1_17,hq1_18,hq1_19,hq1_20,hq1_21,fze1_2_0,fze1_2_1,fze1_2_2,fze1_2_3,fze1_2_4,fze1_2_5,fze1_2_6,fze1_2_7,fze1_2_8,fze1_2_9,fze1_2_10,fze1_2_11,fze1_2_12,fze1_2_13,fze1_2_14,fze1_2_15,hxu1_2,hr1_1,hr1_0,hr1_5,hr1_6,hI1,hN1,hS1,hcze1_2])
      generalize hwu6 : wr (w5.alloc (.cells #[.int .u8 0,.int .u8 0,.int .u8 0,.int .u8 0,.int .u8 0,.int .u8 0,.int .u8 0,.int .u8 0,.int .u8 0,.int .u8 0,.int .u8 0,.int .u8 0,.int .u8 0,.int .u8 0,.int .u8 0,.int .u8 0] 77)) w5.heap.size 0 [ze1_2_0,ze1_2_1,ze1_2_2,ze1_2_3,ze1_2_4,ze1_2_5,ze1_2_6,ze1_2_7,ze1_2_8,ze1_2_9,ze1_2_10,ze1_2_11,ze1_2_12,ze1_2_13,ze1_2_14,ze1_2_15] = w6
      have hEu6 : Ext w5 w6 := by rw [← hwu6];exact (Upd.alloc (Upd.refl _ _) _).wr _ _ (.inl (Nat.le_refl _))
      clear hwu6
      have ha6 := ha5.then hEu6
      have hB6 : B ≤ w6.heap.size := Nat.le_trans hB ha6.upd.size
      have hv_6 := ha6.upd.blk_some hv hdv
      have hx1_6 := ha6.upd.blk_some hx1 hnx1
      have hu6 := AppendUuid_fn r5 _ w6 ha6.own hB6 (uuidS (y1.at 2).s) (uuidS_len _) (by simp only [List.length_append,List.length_nil];omega)
      rw [hXe1_2,← hXXe1_2] at hu6
      refine (hu6).mono ?_
      rintro r7 w7 hc7
      have ha7 := ha6.trans hc7
      have hB7 : B ≤ w7.heap.size := Nat.le_trans hB ha7.upd.size
      have hv_7 := ha7.upd.blk_some hv hdv
      have hx1_7 := ha7.upd.blk_some hx1 hnx1
      repeat ((first | refine qA rfl ?_|apply qB|refine qC rfl ?_|apply qD|apply qE|apply qF|apply qG|apply qH);try simp (maxSteps:=1000000)(disch:=(first|omega|(simp only [qI,qJ,qK]<;>omega)|exact qL _)) only [go_sem,↓reduceIte,n0,reduceCtorEq,n1,n2,n3,n4,n5,i0,i1,i2,i3,i4,i5,i6,i7,hv_7,hx1_7,hfp_2,Int.toNat_natCast,Nat.mul_one,hq1_0,hq1_1,hq1_2,hq1_3,hq1_4,hq1_5,hq1_6,hq1_7,hq1_8,hq1_9,hq1_10,hq1_11,hq1_12,hq1_13,hq1_14,hq1_15,hq1_16,hq1_17,hq1_18,hq1_19,hq1_20,hq1_21,fze1_2_0,fze1_2_1,fze1_2_2,fze1_2_3,fze1_2_4,fze1_2_5,fze1_2_6,fze1_2_7,fze1_2_8,fze1_2_9,fze1_2_10,fze1_2_11,fze1_2_12,fze1_2_13,fze1_2_14,fze1_2_15,hxu1_2,hr1_1,hr1_0,hr1_5,hr1_6,hI1,hN1,hS1])
      refine (AppendBool_fn _ _ _ ha7.own hB7 _ (by simp only [List.length_append,List.length_nil];omega)).mono ?_
      rintro r8 w8 hc8
      rw [← hXXe1_3] at hc8
      have ha8 := ha7.trans hc8
      have hB8 : B ≤ w8.heap.size := Nat.le_trans hB ha8.upd.size
      have hv_8 := ha8.upd.blk_some hv hdv
      have hx1_8 := ha8.upd.blk_some hx1 hnx1
      repeat ((first | refine qA rfl ?_|apply qB|refine qC rfl ?_|apply qD|apply qE|apply qF|apply qG|apply qH);try simp (maxSteps:=1000000)(disch:=(first|omega|(simp only [qI,qJ,qK]<;>omega)|exact qL _)) only [go_sem,↓reduceIte,n0,reduceCtorEq,n1,n2,n3,n4,n5,i0,i1,i2,i3,i4,i5,i6,i7,hv_8,hx1_8,hfp_2,Int.toNat_natCast,Nat.mul_one,hq1_0,hq1_1,hq1_2,hq1_3,hq1_4,hq1_5,hq1_6,hq1_7,hq1_8,hq1_9,hq1_10,hq1_11,hq1_12,hq1_13,hq1_14,hq1_15,hq1_16,hq1_17,hq1_18,hq1_19,hq1_20,hq1_21,fze1_2_0,fze1_2_1,fze1_2_2,fze1_2_3,fze1_2_4,fze1_2_5,fze1_2_6,fze1_2_7,fze1_2_8,fze1_2_9,fze1_2_10,fze1_2_11,fze1_2_12,fze1_2_13,fze1_2_14,fze1_2_15,hxu1_2,hr1_1,hr1_0,hr1_5,hr1_6,hI1,hN1,hS1])
      refine (AppendCompactArrayLen_fn _ _ _ ha8.own hB8 (y1.at 4).l.length hlle1_4 (by simp only [List.length_append,List.length_nil];omega)).mono ?_
      rintro r9 w9 hc9
      rw [← hXLe1_4] at hc9
      have ha9 := ha8.trans hc9
      have hB9 : B ≤ w9.heap.size := Nat.le_trans hB ha9.upd.size
      have hv_9 := ha9.upd.blk_some hv hdv
      have hx1_9 := ha9.upd.blk_some hx1 hnx1
      repeat ((first | refine qA rfl ?_|apply qB|refine qC rfl ?_|apply qD|apply qE|apply qF|apply qG|apply qH);try simp (maxSteps:=1000000)(disch:=(first|omega|(simp only [qI,qJ,qK]<;>omega)|exact qL _)) only [go_sem,↓reduceIte,n0,reduceCtorEq,n1,n2,n3,n4,n5,i0,i1,i2,i3,i4,i5,i6,i7,hv_9,hx1_9,hfp_2,Int.toNat_natCast,Nat.mul_one,hq1_0,hq1_1,hq1_2,hq1_3,hq1_4,hq1_5,hq1_6,hq1_7,hq1_8,hq1_9,hq1_10,hq1_11,hq1_12,hq1_13,hq1_14,hq1_15,hq1_16,hq1_17,hq1_18,hq1_19,hq1_20,hq1_21,fze1_2_0,fze1_2_1,fze1_2_2,fze1_2_3,fze1_2_4,fze1_2_5,fze1_2_6,fze1_2_7,fze1_2_8,fze1_2_9,fze1_2_10,fze1_2_11,fze1_2_12,fze1_2_13,fze1_2_14,fze1_2_15,hxu1_2,hr1_1,hr1_0,hr1_5,hr1_6,hI1,hN1,hS1])
      have hadd2 := ha9
      refine W.exitJ 2 (fun ρ w' => ∃ r,ρ 1 = r ∧ ρ 0 = .pointer (some ⟨vb,0,none⟩) ∧ ρ 5 = .int .i16 ver ∧ ρ 6 = .bool true ∧ ρ 71 = .int .i64 j1 ∧ ρ 70 = .int .i64 (t.at 1).l.length ∧ ρ 8 = .slice (some ⟨b1,o1,none⟩) (t.at 1).l.length ac_1 ∧ ρ 10 = .pointer (some ⟨b1,o1 + j1 * 22,none⟩) ∧ AppR 5 B w v s (([] ++ X_0 ++ XL_1 ++ T1 ++ Xe1_0 ++ Xe1_1 ++ Xe1_2 ++ Xe1_3 ++ XLe1_4) ++ XEe1_4) r w')
        (W.loop (fun ρ w' => ∃ (j : Nat) (r : Value),j ≤ (y1.at 4).l.length ∧ ρ 124 = .int .i64 j ∧ ρ 123 = .int .i64 (y1.at 4).l.length ∧ ρ 15 = .slice abe1_4 (y1.at 4).l.length ace1_4 ∧ ρ 1 = r ∧ ρ 0 = .pointer (some ⟨vb,0,none⟩) ∧ ρ 5 = .int .i16 ver ∧ ρ 6 = .bool true ∧ ρ 71 = .int .i64 j1 ∧ ρ 70 = .int .i64 (t.at 1).l.length ∧ ρ 8 = .slice (some ⟨b1,o1,none⟩) (t.at 1).l.length ac_1 ∧ ρ 10 = .pointer (some ⟨b1,o1 + j1 * 22,none⟩) ∧ AppR 5 B w v s (([] ++ X_0 ++ XL_1 ++ T1 ++ Xe1_0 ++ Xe1_1 ++ Xe1_2 ++ Xe1_3 ++ XLe1_4) ++ ((y1.at 4).l.take j).flatMap (fun x => partS (d + 1) fsr_X0 ver true x)) r w')
          (fun ρ _ => (y1.at 4).l.length - (RowKit.intOf (ρ 124)).toNat) ?_ ?_) ?_
      · refine ⟨0,_,Nat.zero_le _,?_,?_,?_,?_,?_,?_,?_,?_,?_,?_,?_,ha9.eqs (by rw [List.take_zero,List.flatMap_nil,List.append_nil])⟩ <;> simp (maxSteps:=1000000)(disch:=(first|omega|(simp only [qI,qJ,qK]<;>omega)|exact qL _)) only [go_sem,↓reduceIte,n0,reduceCtorEq,n1,n2,n3,n4,n5,i0,i1,i2,i3,i4,i5,i6,i7,hr1_1,hr1_0,hr1_5,hr1_6,hI1,hN1,hS1]
        all_goals rfl
      · rintro ρ w10 ⟨j2,r10,hj2,hI2,hN2,hS2,hr1_2,hr2_0,hr2_5,hr2_6,hr2_71,hr2_70,hr2_8,hr2_10,ha10⟩
        have hB10 : B ≤ w10.heap.size := Nat.le_trans hB ha10.upd.size
        have hv_10 := ha10.upd.blk_some hv hdv
        have hx1_10 := ha10.upd.blk_some hx1 hnx1
        by_cases hlt2 : j2 < (y1.at 4).l.length
        · obtain ⟨_,b2,o2,x2,ce2,hb2,hok2,hx2,hbl2,hxs2,hxe2,hq2,hRe2⟩ := SlR.get (size := 10) (by decide) hse1_4 hlt2
          subst hb2
          have hcat2 : (y1.at 4).l.take (j2 + 1) = (y1.at 4).l.take j2 ++ [(y1.at 4).l[j2]] := List.take_succ_eq_append_getElem hlt2
          have htl2 := take_flatMap_len (y1.at 4).l (fun x => partS (d + 1) fsr_X0 ver true x) (j2 + 1)
          rw [← hXEe1_4,hcat2,List.flatMap_append,List.flatMap_cons,List.flatMap_nil,List.append_nil] at htl2
          have hge2 := hgle1_4.2 _ (List.getElem_mem hlt2)
          generalize (y1.at 4).l[j2] = y2 at *
          have hnx2 := hd b2 hbl2 hok2
          obtain ⟨T2,hTT2⟩ : ∃ T,T = ((y1.at 4).l.take j2).flatMap (fun x => partS (d + 1) fsr_X0 ver true x) := ⟨_,rfl⟩
          rw [← hTT2] at ha10 htl2
          have hx2_10 := ha10.upd.blk_some hx2 hnx2
          replace hRe2 : RepS true (d + 1) fsr_X0 okM w y2 ce2 := Rep1_part.1 hRe2
          have hfe2 : FitW ver (d + 1) fsr_X0 y2 := hge2.2 rfl
          obtain ⟨⟨ge2_0,ge2_1,ge2_2,ge2_3,ge2_4,ge2_5,ge2_6,ge2_7,ge2_8,-⟩,hfue2⟩ := hfe2
          replace ge2_0 : hasS fX0_0 ver = true → FitWF (FitW ver d) ver fX0_0 (y2.at 0) := ge2_0
          have hhe2_0 : hasS fX0_0 ver = true := hasS_t (by show (0 : Int) ≤ ver;omega) (by show (-1 : Int) < 0 ∨ ver ≤ (-1 : Int);omega)
          replace ge2_0 := ge2_0 hhe2_0
          replace ge2_1 : hasS fX0_1 ver = true → FitWF (FitW ver d) ver fX0_1 (y2.at 1) := ge2_1
          have hhe2_1 : hasS fX0_1 ver = true := hasS_t (by show (0 : Int) ≤ ver;omega) (by show (-1 : Int) < 0 ∨ ver ≤ (-1 : Int);omega)
          replace ge2_1 := ge2_1 hhe2_1
          replace ge2_2 : hasS fX0_2 ver = true → FitWF (FitW ver d) ver fX0_2 (y2.at 2) := ge2_2
          have hhe2_2 : hasS fX0_2 ver = true := hasS_t (by show (0 : Int) ≤ ver;omega) (by show (-1 : Int) < 0 ∨ ver ≤ (-1 : Int);omega)
          replace ge2_2 := ge2_2 hhe2_2
          replace ge2_3 : hasS fX0_3 ver = true → FitWF (FitW ver d) ver fX0_3 (y2.at 3) := ge2_3
          have hhe2_3 : hasS fX0_3 ver = true := hasS_t (by show (0 : Int) ≤ ver;omega) (by show (-1 : Int) < 0 ∨ ver ≤ (-1 : Int);omega)
          replace ge2_3 := ge2_3 hhe2_3
          replace ge2_4 : hasS fX0_4 ver = true → FitWF (FitW ver d) ver fX0_4 (y2.at 4) := ge2_4
          have hhe2_4 : hasS fX0_4 ver = true := hasS_t (by show (0 : Int) ≤ ver;omega) (by show (-1 : Int) < 0 ∨ ver ≤ (-1 : Int);omega)
          replace ge2_4 := ge2_4 hhe2_4
          replace ge2_5 : hasS fX0_5 ver = true → FitWF (FitW ver d) ver fX0_5 (y2.at 5) := ge2_5
          have hhe2_5 : hasS fX0_5 ver = true := hasS_t (by show (0 : Int) ≤ ver;omega) (by show (-1 : Int) < 0 ∨ ver ≤ (-1 : Int);omega)
          replace ge2_5 := ge2_5 hhe2_5
          replace ge2_6 : hasS frX0_6 ver = true → FitWF (FitW ver d) ver frX0_6 (y2.at 6) := ge2_6
          have hhe2_6 : hasS frX0_6 ver = true := hasS_t (by show (0 : Int) ≤ ver;omega) (by show (-1 : Int) < 0 ∨ ver ≤ (-1 : Int);omega)
          replace ge2_6 := ge2_6 hhe2_6
          replace ge2_7 : hasS frX0_7 ver = true → FitWF (FitW ver d) ver frX0_7 (y2.at 7) := ge2_7
          have hhe2_7 : hasS frX0_7 ver = true := hasS_t (by show (0 : Int) ≤ ver;omega) (by show (-1 : Int) < 0 ∨ ver ≤ (-1 : Int);omega)
          replace ge2_7 := ge2_7 hhe2_7
          replace ge2_8 : hasS fX0_8 ver = true → FitWF (FitW ver d) ver fX0_8 (y2.at 8) := ge2_8
          have hhe2_8 : hasS fX0_8 ver = true := hasS_t (by show (0 : Int) ≤ ver;omega) (by show (-1 : Int) < 0 ∨ ver ≤ (-1 : Int);omega)
          replace ge2_8 := ge2_8 hhe2_8
          obtain ⟨cse2,qe2,hcse2,hLe2,hTe2⟩ := hRe2.inv
          obtain ⟨ce2_0,ee2_0,rfl,he2_0,ce2_1,ee2_1,rfl,he2_1,ce2_2,ee2_2,rfl,he2_2,ce2_3,ee2_3,rfl,he2_3,ce2_4,ee2_4,rfl,he2_4,ce2_5,ee2_5,rfl,he2_5,ce2_6,ee2_6,rfl,he2_6,ce2_7,ee2_7,rfl,he2_7,ce2_8,ee2_8,rfl,he2_8,rfl⟩ := hLe2
          replace he2_0 : RepF (RepS true d) (szS true d) fX0_0 okM w (y2.at 0) ce2_0 := he2_0
          replace he2_1 : RepF (RepS true d) (szS true d) fX0_1 okM w (y2.at 1) ce2_1 := he2_1
          replace he2_2 : RepF (RepS true d) (szS true d) fX0_2 okM w (y2.at 2) ce2_2 := he2_2
          replace he2_3 : RepF (RepS true d) (szS true d) fX0_3 okM w (y2.at 3) ce2_3 := he2_3
          replace he2_4 : RepF (RepS true d) (szS true d) fX0_4 okM w (y2.at 4) ce2_4 := he2_4
          replace he2_5 : RepF (RepS true d) (szS true d) fX0_5 okM w (y2.at 5) ce2_5 := he2_5
          replace he2_6 : RepF (RepS true d) (szS true d) frX0_6 okM w (y2.at 6) ce2_6 := he2_6
          replace he2_7 : RepF (RepS true d) (szS true d) frX0_7 okM w (y2.at 7) ce2_7 := he2_7
          replace he2_8 : RepF (RepS true d) (szS true d) fX0_8 okM w (y2.at 8) ce2_8 := he2_8
          obtain rfl := (RepF_num (by decide)).1 he2_0
          obtain rfl := (RepF_num (by decide)).1 he2_1
          obtain rfl := (RepF_num (by decide)).1 he2_2
          obtain rfl := (RepF_num (by decide)).1 he2_3
          obtain ⟨pe2_4,rfl,hse2_4⟩ := RepF_listW ge2_4 rfl (by decide) he2_4
          obtain ⟨abe2_4,ace2_4,rfl,_⟩ := SlR.shape hse2_4
          have hgle2_4 := ge2_4.list rfl
          have hlle2_4 := hgle2_4.1
          obtain ⟨pe2_5,rfl,hse2_5⟩ := RepF_listW ge2_5 rfl (by decide) he2_5
          obtain ⟨abe2_5,ace2_5,rfl,_⟩ := SlR.shape hse2_5
          have hgle2_5 := ge2_5.list rfl
          have hlle2_5 := hgle2_5.1
          obtain ⟨pe2_6,Le2_6,rfl,hLLe2_6,hse2_6,hnne2_6⟩ := RepF_listN ge2_6 rfl (by decide) he2_6
          obtain ⟨abe2_6,ace2_6,rfl,_⟩ := SlR.shape hse2_6
          have hnie2_6 := hnne2_6 _ _ _ rfl
          have hgle2_6 := ge2_6.listL rfl hLLe2_6
          have hlle2_6 := hgle2_6.1
          obtain ⟨pe2_7,Le2_7,rfl,hLLe2_7,hse2_7,hnne2_7⟩ := RepF_listN ge2_7 rfl (by decide) he2_7
          obtain ⟨abe2_7,ace2_7,rfl,_⟩ := SlR.shape hse2_7
          have hnie2_7 := hnne2_7 _ _ _ rfl
          have hgle2_7 := ge2_7.listL rfl hLLe2_7
          have hlle2_7 := hgle2_7.1
          obtain ⟨pe2_8,rfl,hse2_8⟩ := RepF_listW ge2_8 rfl (by decide) he2_8
          obtain ⟨abe2_8,ace2_8,rfl,_⟩ := SlR.shape hse2_8
          have hgle2_8 := ge2_8.list rfl
          have hlle2_8 := hgle2_8.1
          obtain ⟨qme2,rfl⟩ := hTe2.shape
          subst hcse2
          have hq2_0 : x2.1[o2 + j2 * 10]? = some (.int .i16 (IntKind.i16.wrap (y2.at 0).n)) := hq2 0 (by decide)
          have hq2_1 : x2.1[o2 + (j2 * 10 + 1)]? = some (.int .i32 (IntKind.i32.wrap (y2.at 1).n)) := hq2 1 (by decide)
          have hq2_2 : x2.1[o2 + (j2 * 10 + 2)]? = some (.int .i32 (IntKind.i32.wrap (y2.at 2).n)) := hq2 2 (by decide)
          have hq2_3 : x2.1[o2 + (j2 * 10 + 3)]? = some (.int .i32 (IntKind.i32.wrap (y2.at 3).n)) := hq2 3 (by decide)
          have hq2_4 : x2.1[o2 + (j2 * 10 + 4)]? = some (.slice abe2_4 (y2.at 4).l.length ace2_4) := hq2 4 (by decide)
          have hq2_5 : x2.1[o2 + (j2 * 10 + 5)]? = some (.slice abe2_5 (y2.at 5).l.length ace2_5) := hq2 5 (by decide)
          have hq2_6 : x2.1[o2 + (j2 * 10 + 6)]? = some (.slice abe2_6 Le2_6.length ace2_6) := hq2 6 (by decide)
          have hq2_7 : x2.1[o2 + (j2 * 10 + 7)]? = some (.slice abe2_7 Le2_7.length ace2_7) := hq2 7 (by decide)
          have hq2_8 : x2.1[o2 + (j2 * 10 + 8)]? = some (.slice abe2_8 (y2.at 8).l.length ace2_8) := hq2 8 (by decide)
          have hq2_9 : x2.1[o2 + (j2 * 10 + 9)]? = some (.map qme2) := hq2 9 (by decide)
          obtain ⟨Xe2_0,hXXe2_0⟩ : ∃ X,X = fixedS (y2.at 0).n 2 := ⟨_,rfl⟩
          obtain ⟨Xe2_1,hXXe2_1⟩ : ∃ X,X = fixedS (y2.at 1).n 4 := ⟨_,rfl⟩
          obtain ⟨Xe2_2,hXXe2_2⟩ : ∃ X,X = fixedS (y2.at 2).n 4 := ⟨_,rfl⟩
          obtain ⟨Xe2_3,hXXe2_3⟩ : ∃ X,X = fixedS (y2.at 3).n 4 := ⟨_,rfl⟩
          obtain ⟨XLe2_4,hXLe2_4⟩ : ∃ X,X = uvarS ((y2.at 4).l.length + 1) := ⟨_,rfl⟩
          obtain ⟨XEe2_4,hXEe2_4⟩ : ∃ X,X = (y2.at 4).l.flatMap (fun x : Tree => fixedS x.n 4) := ⟨_,rfl⟩
          obtain ⟨XLe2_5,hXLe2_5⟩ : ∃ X,X = uvarS ((y2.at 5).l.length + 1) := ⟨_,rfl⟩
          obtain ⟨XEe2_5,hXEe2_5⟩ : ∃ X,X = (y2.at 5).l.flatMap (fun x : Tree => fixedS x.n 4) := ⟨_,rfl⟩
          obtain ⟨XLe2_6,hXLe2_6⟩ : ∃ X,X = countedS true (nullS frX0_6 ver (y2.at 6)) Le2_6.length 4 := ⟨_,rfl⟩
          obtain ⟨XEe2_6,hXEe2_6⟩ : ∃ X,X = Le2_6.flatMap (fun x : Tree => fixedS x.n 4) := ⟨_,rfl⟩
          obtain ⟨XLe2_7,hXLe2_7⟩ : ∃ X,X = countedS true (nullS frX0_7 ver (y2.at 7)) Le2_7.length 4 := ⟨_,rfl⟩
          obtain ⟨XEe2_7,hXEe2_7⟩ : ∃ X,X = Le2_7.flatMap (fun x : Tree => fixedS x.n 4) := ⟨_,rfl⟩
          obtain ⟨XLe2_8,hXLe2_8⟩ : ∃ X,X = uvarS ((y2.at 8).l.length + 1) := ⟨_,rfl⟩
          obtain ⟨XEe2_8,hXEe2_8⟩ : ∃ X,X = (y2.at 8).l.flatMap (fun x : Tree => fixedS x.n 4) := ⟨_,rfl⟩
          obtain ⟨XUe2,hXUe2⟩ : ∃ X,X = uvarS y2.u.length := ⟨_,rfl⟩
          obtain ⟨XTe2,hXTe2⟩ : ∃ X,X = y2.u.flatMap oneTag := ⟨_,rfl⟩
          have hPe2 : partS (d + 1) fsr_X0 ver true y2 = (Xe2_0 ++ (Xe2_1 ++ (Xe2_2 ++ (Xe2_3 ++ ((XLe2_4 ++ XEe2_4) ++ ((XLe2_5 ++ XEe2_5) ++ ((XLe2_6 ++ XEe2_6) ++ ((XLe2_7 ++ XEe2_7) ++ ((XLe2_8 ++ XEe2_8) ++ []))))))))) ++ (XUe2 ++ XTe2) := by rw [hXUe2,hXTe2];exact partS_yes rfl hfue2 (plainL_has (by decide) hhe2_0 ((fieldS_num 2 rfl (by decide)).trans hXXe2_0.symm) (plainL_has (by decide) hhe2_1 ((fieldS_num 3 rfl (by decide)).trans hXXe2_1.symm) (plainL_has (by decide) hhe2_2 ((fieldS_num 3 rfl (by decide)).trans hXXe2_2.symm) (plainL_has (by decide) hhe2_3 ((fieldS_num 3 rfl (by decide)).trans hXXe2_3.symm) (plainL_has (by decide) hhe2_4 ((fieldS_list_t (g := (fun x : Tree => fixedS x.n 4)) ge2_4 rfl (by decide) (fun x _ => valueS_num 3 (by decide))).trans (by rw [hXLe2_4,hXEe2_4])) (plainL_has (by decide) hhe2_5 ((fieldS_list_t (g := (fun x : Tree => fixedS x.n 4)) ge2_5 rfl (by decide) (fun x _ => valueS_num 3 (by decide))).trans (by rw [hXLe2_5,hXEe2_5])) (plainL_has (by decide) hhe2_6 ((fieldS_listN (g := (fun x : Tree => fixedS x.n 4)) ge2_6 rfl hLLe2_6 (fun x _ => valueS_num 3 (by decide))).trans (by rw [hXLe2_6,hXEe2_6])) (plainL_has (by decide) hhe2_7 ((fieldS_listN (g := (fun x : Tree => fixedS x.n 4)) ge2_7 rfl hLLe2_7 (fun x _ => valueS_num 3 (by decide))).trans (by rw [hXLe2_7,hXEe2_7])) (plainL_has (by decide) hhe2_8 ((fieldS_list_t (g := (fun x : Tree => fixedS x.n 4)) ge2_8 rfl (by decide) (fun x _ => valueS_num 3 (by decide))).trans (by rw [hXLe2_8,hXEe2_8])) rfl)))))))))
          rw [hPe2] at htl2
          simp only [List.length_append,List.length_nil] at htl2
          repeat ((first | refine qA rfl ?_|apply qB|refine qC rfl ?_|apply qD|apply qE|apply qF|apply qG|apply qH);try simp (maxSteps:=1000000)(disch:=(first|omega|(simp only [qI,qJ,qK]<;>omega)|exact qL _)) only [go_sem,↓reduceIte,n0,reduceCtorEq,n1,n2,n3,n4,n5,i0,i1,i2,i3,i4,i5,i6,i7,hv_10,hx1_10,hx2_10,hfp_2,Int.toNat_natCast,Nat.mul_one,hq1_0,hq1_1,hq1_2,hq1_3,hq1_4,hq1_5,hq1_6,hq1_7,hq1_8,hq1_9,hq1_10,hq1_11,hq1_12,hq1_13,hq1_14,hq1_15,hq1_16,hq1_17,hq1_18,hq1_19,hq1_20,hq1_21,fze1_2_0,fze1_2_1,fze1_2_2,fze1_2_3,fze1_2_4,fze1_2_5,fze1_2_6,fze1_2_7,fze1_2_8,fze1_2_9,fze1_2_10,fze1_2_11,fze1_2_12,fze1_2_13,fze1_2_14,fze1_2_15,hxu1_2,hq2_0,hq2_1,hq2_2,hq2_3,hq2_4,hq2_5,hq2_6,hq2_7,hq2_8,hq2_9,hnie2_6,hnie2_7,hr1_2,hr2_0,hr2_5,hr2_6,hr2_71,hr2_70,hr2_8,hr2_10,hI2,hN2,hS2])
          refine (AppendInt16_fn _ _ _ ha10.own hB10 _ (by simp only [List.length_append,List.length_nil];omega)).mono ?_
          rintro r11 w11 hc11
          rw [wrap16,← hXXe2_0] at hc11
          have ha11 := ha10.trans hc11
          have hB11 : B ≤ w11.heap.size := Nat.le_trans hB ha11.upd.size
          have hv_11 := ha11.upd.blk_some hv hdv
          have hx1_11 := ha11.upd.blk_some hx1 hnx1
          have hx2_11 := ha11.upd.blk_some hx2 hnx2
          repeat ((first | refine qA rfl ?_|apply qB|refine qC rfl ?_|apply qD|apply qE|apply qF|apply qG|apply qH);try simp (maxSteps:=1000000)(disch:=(first|omega|(simp only [qI,qJ,qK]<;>omega)|exact qL _)) only [go_sem,↓reduceIte,n0,reduceCtorEq,n1,n2,n3,n4,n5,i0,i1,i2,i3,i4,i5,i6,i7,hv_11,hx1_11,hx2_11,hfp_2,Int.toNat_natCast,Nat.mul_one,hq1_0,hq1_1,hq1_2,hq1_3,hq1_4,hq1_5,hq1_6,hq1_7,hq1_8,hq1_9,hq1_10,hq1_11,hq1_12,hq1_13,hq1_14,hq1_15,hq1_16,hq1_17,hq1_18,hq1_19,hq1_20,hq1_21,fze1_2_0,fze1_2_1,fze1_2_2,fze1_2_3,fze1_2_4,fze1_2_5,fze1_2_6,fze1_2_7,fze1_2_8,fze1_2_9,fze1_2_10,fze1_2_11,fze1_2_12,fze1_2_13,fze1_2_14,fze1_2_15,hxu1_2,hq2_0,hq2_1,hq2_2,hq2_3,hq2_4,hq2_5,hq2_6,hq2_7,hq2_8,hq2_9,hnie2_6,hnie2_7,hr1_2,hr2_0,hr2_5,hr2_6,hr2_71,hr2_70,hr2_8,hr2_10,hI2,hN2,hS2])
          refine (AppendInt32_fn _ _ _ ha11.own hB11 _ (by simp only [List.length_append,List.length_nil];omega)).mono ?_
          rintro r12 w12 hc12
          rw [wrap32,← hXXe2_1] at hc12
          have ha12 := ha11.trans hc12
          have hB12 : B ≤ w12.heap.size := Nat.le_trans hB ha12.upd.size
          have hv_12 := ha12.upd.blk_some hv hdv
          have hx1_12 := ha12.upd.blk_some hx1 hnx1
          have hx2_12 := ha12.upd.blk_some hx2 hnx2
          repeat ((first | refine qA rfl ?_|apply qB|refine qC rfl ?_|apply qD|apply qE|apply qF|apply qG|apply qH);try simp (maxSteps:=1000000)(disch:=(first|omega|(simp only [qI,qJ,qK]<;>omega)|exact qL _)) only [go_sem,↓reduceIte,n0,reduceCtorEq,n1,n2,n3,n4,n5,i0,i1,i2,i3,i4,i5,i6,i7,hv_12,hx1_12,hx2_12,hfp_2,Int.toNat_natCast,Nat.mul_one,hq1_0,hq1_1,hq1_2,hq1_3,hq1_4,hq1_5,hq1_6,hq1_7,hq1_8,hq1_9,hq1_10,hq1_11,hq1_12,hq1_13,hq1_14,hq1_15,hq1_16,hq1_17,hq1_18,hq1_19,hq1_20,hq1_21,fze1_2_0,fze1_2_1,fze1_2_2,fze1_2_3,fze1_2_4,fze1_2_5,fze1_2_6,fze1_2_7,fze1_2_8,fze1_2_9,fze1_2_10,fze1_2_11,fze1_2_12,fze1_2_13,fze1_2_14,fze1_2_15,hxu1_2,hq2_0,hq2_1,hq2_2,hq2_3,hq2_4,hq2_5,hq2_6,hq2_7,hq2_8,hq2_9,hnie2_6,hnie2_7,hr1_2,hr2_0,hr2_5,hr2_6,hr2_71,hr2_70,hr2_8,hr2_10,hI2,hN2,hS2])
          refine (AppendInt32_fn _ _ _ ha12.own hB12 _ (by simp only [List.length_append,List.length_nil];omega)).mono ?_
          rintro r13 w13 hc13
          rw [wrap32,← hXXe2_2] at hc13
          have ha13 := ha12.trans hc13
          have hB13 : B ≤ w13.heap.size := Nat.le_trans hB ha13.upd.size
          have hv_13 := ha13.upd.blk_some hv hdv
          have hx1_13 := ha13.upd.blk_some hx1 hnx1
          have hx2_13 := ha13.upd.blk_some hx2 hnx2
          repeat ((first | refine qA rfl ?_|apply qB|refine qC rfl ?_|apply qD|apply qE|apply qF|apply qG|apply qH);try simp (maxSteps:=1000000)(disch:=(first|omega|(simp only [qI,qJ,qK]<;>omega)|exact qL _)) only [go_sem,↓reduceIte,n0,reduceCtorEq,n1,n2,n3,n4,n5,i0,i1,i2,i3,i4,i5,i6,i7,hv_13,hx1_13,hx2_13,hfp_2,Int.toNat_natCast,Nat.mul_one,hq1_0,hq1_1,hq1_2,hq1_3,hq1_4,hq1_5,hq1_6,hq1_7,hq1_8,hq1_9,hq1_10,hq1_11,hq1_12,hq1_13,hq1_14,hq1_15,hq1_16,hq1_17,hq1_18,hq1_19,hq1_20,hq1_21,fze1_2_0,fze1_2_1,fze1_2_2,fze1_2_3,fze1_2_4,fze1_2_5,fze1_2_6,fze1_2_7,fze1_2_8,fze1_2_9,fze1_2_10,fze1_2_11,fze1_2_12,fze1_2_13,fze1_2_14,fze1_2_15,hxu1_2,hq2_0,hq2_1,hq2_2,hq2_3,hq2_4,hq2_5,hq2_6,hq2_7,hq2_8,hq2_9,hnie2_6,hnie2_7,hr1_2,hr2_0,hr2_5,hr2_6,hr2_71,hr2_70,hr2_8,hr2_10,hI2,hN2,hS2])
          refine (AppendInt32_fn _ _ _ ha13.own hB13 _ (by simp only [List.length_append,List.length_nil];omega)).mono ?_
          rintro r14 w14 hc14
          rw [wrap32,← hXXe2_3] at hc14
          have ha14 := ha13.trans hc14
          have hB14 : B ≤ w14.heap.size := Nat.le_trans hB ha14.upd.size
          have hv_14 := ha14.upd.blk_some hv hdv
          have hx1_14 := ha14.upd.blk_some hx1 hnx1
          have hx2_14 := ha14.upd.blk_some hx2 hnx2
          repeat ((first | refine qA rfl ?_|apply qB|refine qC rfl ?_|apply qD|apply qE|apply qF|apply qG|apply qH);try simp (maxSteps:=1000000)(disch:=(first|omega|(simp only [qI,qJ,qK]<;>omega)|exact qL _)) only [go_sem,↓reduceIte,n0,reduceCtorEq,n1,n2,n3,n4,n5,i0,i1,i2,i3,i4,i5,i6,i7,hv_14,hx1_14,hx2_14,hfp_2,Int.toNat_natCast,Nat.mul_one,hq1_0,hq1_1,hq1_2,hq1_3,hq1_4,hq1_5,hq1_6,hq1_7,hq1_8,hq1_9,hq1_10,hq1_11,hq1_12,hq1_13,hq1_14,hq1_15,hq1_16,hq1_17,hq1_18,hq1_19,hq1_20,hq1_21,fze1_2_0,fze1_2_1,fze1_2_2,fze1_2_3,fze1_2_4,fze1_2_5,fze1_2_6,fze1_2_7,fze1_2_8,fze1_2_9,fze1_2_10,fze1_2_11,fze1_2_12,fze1_2_13,fze1_2_14,fze1_2_15,hxu1_2,hq2_0,hq2_1,hq2_2,hq2_3,hq2_4,hq2_5,hq2_6,hq2_7,hq2_8,hq2_9,hnie2_6,hnie2_7,hr1_2,hr2_0,hr2_5,hr2_6,hr2_71,hr2_70,hr2_8,hr2_10,hI2,hN2,hS2])
          refine (AppendCompactArrayLen_fn _ _ _ ha14.own hB14 (y2.at 4).l.length hlle2_4 (by simp only [List.length_append,List.length_nil];omega)).mono ?_
          rintro r15 w15 hc15
          rw [← hXLe2_4] at hc15
          have ha15 := ha14.trans hc15
          have hB15 : B ≤ w15.heap.size := Nat.le_trans hB ha15.upd.size
          have hv_15 := ha15.upd.blk_some hv hdv
          have hx1_15 := ha15.upd.blk_some hx1 hnx1
          have hx2_15 := ha15.upd.blk_some hx2 hnx2
          repeat ((first | refine qA rfl ?_|apply qB|refine qC rfl ?_|apply qD|apply qE|apply qF|apply qG|apply qH);try simp (maxSteps:=1000000)(disch:=(first|omega|(simp only [qI,qJ,qK]<;>omega)|exact qL _)) only [go_sem,↓reduceIte,n0,reduceCtorEq,n1,n2,n3,n4,n5,i0,i1,i2,i3,i4,i5,i6,i7,hv_15,hx1_15,hx2_15,hfp_2,Int.toNat_natCast,Nat.mul_one,hq1_0,hq1_1,hq1_2,hq1_3,hq1_4,hq1_5,hq1_6,hq1_7,hq1_8,hq1_9,hq1_10,hq1_11,hq1_12,hq1_13,hq1_14,hq1_15,hq1_16,hq1_17,hq1_18,hq1_19,hq1_20,hq1_21,fze1_2_0,fze1_2_1,fze1_2_2,fze1_2_3,fze1_2_4,fze1_2_5,fze1_2_6,fze1_2_7,fze1_2_8,fze1_2_9,fze1_2_10,fze1_2_11,fze1_2_12,fze1_2_13,fze1_2_14,fze1_2_15,hxu1_2,hq2_0,hq2_1,hq2_2,hq2_3,hq2_4,hq2_5,hq2_6,hq2_7,hq2_8,hq2_9,hnie2_6,hnie2_7,hr1_2,hr2_0,hr2_5,hr2_6,hr2_71,hr2_70,hr2_8,hr2_10,hI2,hN2,hS2])
          have hadd3 := ha15
          refine W.exitJ 4 (fun ρ w' => ∃ r,ρ 1 = r ∧ ρ 0 = .pointer (some ⟨vb,0,none⟩) ∧ ρ 5 = .int .i16 ver ∧ ρ 6 = .bool true ∧ ρ 71 = .int .i64 j1 ∧ ρ 70 = .int .i64 (t.at 1).l.length ∧ ρ 8 = .slice (some ⟨b1,o1,none⟩) (t.at 1).l.length ac_1 ∧ ρ 10 = .pointer (some ⟨b1,o1 + j1 * 22,none⟩) ∧ ρ 124 = .int .i64 j2 ∧ ρ 123 = .int .i64 (y1.at 4).l.length ∧ ρ 15 = .slice (some ⟨b2,o2,none⟩) (y1.at 4).l.length ace1_4 ∧ ρ 17 = .pointer (some ⟨b2,o2 + j2 * 10,none⟩) ∧ AppR 5 B w v s (([] ++ X_0 ++ XL_1 ++ T1 ++ Xe1_0 ++ Xe1_1 ++ Xe1_2 ++ Xe1_3 ++ XLe1_4 ++ T2 ++ Xe2_0 ++ Xe2_1 ++ Xe2_2 ++ Xe2_3 ++ XLe2_4) ++ XEe2_4) r w')
            (W.loop (fun ρ w' => ∃ (j : Nat) (r : Value),j ≤ (y2.at 4).l.length ∧ ρ 173 = .int .i64 j ∧ ρ 172 = .int .i64 (y2.at 4).l.length ∧ ρ 22 = .slice abe2_4 (y2.at 4).l.length ace2_4 ∧ ρ 1 = r ∧ ρ 0 = .pointer (some ⟨vb,0,none⟩) ∧ ρ 5 = .int .i16 ver ∧ ρ 6 = .bool true ∧ ρ 71 = .int .i64 j1 ∧ ρ 70 = .int .i64 (t.at 1).l.length ∧ ρ 8 = .slice (some ⟨b1,o1,none⟩) (t.at 1).l.length ac_1 ∧ ρ 10 = .pointer (some ⟨b1,o1 + j1 * 22,none⟩) ∧ ρ 124 = .int .i64 j2 ∧ ρ 123 = .int .i64 (y1.at 4).l.length ∧ ρ 15 = .slice (some ⟨b2,o2,none⟩) (y1.at 4).l.length ace1_4 ∧ ρ 17 = .pointer (some ⟨b2,o2 + j2 * 10,none⟩) ∧ AppR 5 B w v s (([] ++ X_0 ++ XL_1 ++ T1 ++ Xe1_0 ++ Xe1_1 ++ Xe1_2 ++ Xe1_3 ++ XLe1_4 ++ T2 ++ Xe2_0 ++ Xe2_1 ++ Xe2_2 ++ Xe2_3 ++ XLe2_4) ++ ((y2.at 4).l.take j).flatMap (fun x : Tree => fixedS x.n 4)) r w')
              (fun ρ _ => (y2.at 4).l.length - (RowKit.intOf (ρ 173)).toNat) ?_ ?_) ?_
          · refine ⟨0,_,Nat.zero_le _,?_,?_,?_,?_,?_,?_,?_,?_,?_,?_,?_,?_,?_,?_,?_,ha15.eqs (by rw [List.take_zero,List.flatMap_nil,List.append_nil])⟩ <;> simp (maxSteps:=1000000)(disch:=(first|omega|(simp only [qI,qJ,qK]<;>omega)|exact qL _)) only [go_sem,↓reduceIte,n0,reduceCtorEq,n1,n2,n3,n4,n5,i0,i1,i2,i3,i4,i5,i6,i7,hr1_2,hr2_0,hr2_5,hr2_6,hr2_71,hr2_70,hr2_8,hr2_10,hI2,hN2,hS2]
            all_goals rfl
          · rintro ρ w16 ⟨j3,r16,hj3,hI3,hN3,hS3,hr1_3,hr3_0,hr3_5,hr3_6,hr3_71,hr3_70,hr3_8,hr3_10,hr3_124,hr3_123,hr3_15,hr3_17,ha16⟩
            have hB16 : B ≤ w16.heap.size := Nat.le_trans hB ha16.upd.size
            have hv_16 := ha16.upd.blk_some hv hdv
            have hx1_16 := ha16.upd.blk_some hx1 hnx1
            have hx2_16 := ha16.upd.blk_some hx2 hnx2
            by_cases hlt3 : j3 < (y2.at 4).l.length
            · obtain ⟨_,b3,o3,x3,ce3,hb3,hok3,hx3,hbl3,hxs3,hxe3,hq3,hRe3⟩ := SlR.get (size := 1) (by decide) hse2_4 hlt3
              subst hb3
              have hcat3 : (y2.at 4).l.take (j3 + 1) = (y2.at 4).l.take j3 ++ [(y2.at 4).l[j3]] := List.take_succ_eq_append_getElem hlt3
              have htl3 := take_flatMap_len (y2.at 4).l (fun x : Tree => fixedS x.n 4) (j3 + 1)
              rw [← hXEe2_4,hcat3,List.flatMap_append,List.flatMap_cons,List.flatMap_nil,List.append_nil] at htl3
              have hge3 := hgle2_4.2 _ (List.getElem_mem hlt3)
              generalize (y2.at 4).l[j3] = y3 at *
              have hnx3 := hd b3 hbl3 hok3
              obtain ⟨T3,hTT3⟩ : ∃ T,T = ((y2.at 4).l.take j3).flatMap (fun x : Tree => fixedS x.n 4) := ⟨_,rfl⟩
              rw [← hTT3] at ha16 htl3
              have hx3_16 := ha16.upd.blk_some hx3 hnx3
              obtain rfl := (Rep1_num (by decide)).1 hRe3
              have hq3_0 : x3.1[o3 + j3]? = some (.int .i32 (IntKind.i32.wrap y3.n)) := by have := hq3 0 (by decide);rw [Nat.mul_one] at this;exact this
              obtain ⟨Y3,hY3⟩ : ∃ Y,Y = fixedS (y3).n 4 := ⟨_,rfl⟩
              replace htl3 : (T3 ++ Y3).length ≤ XEe2_4.length := by rw [hY3];exact htl3
              simp only [List.length_append] at htl3
              repeat ((first | refine qA rfl ?_|apply qB|refine qC rfl ?_|apply qD|apply qE|apply qF|apply qG|apply qH);try simp (maxSteps:=1000000)(disch:=(first|omega|(simp only [qI,qJ,qK]<;>omega)|exact qL _)) only [go_sem,↓reduceIte,n0,reduceCtorEq,n1,n2,n3,n4,n5,i0,i1,i2,i3,i4,i5,i6,i7,hv_16,hx1_16,hx2_16,hx3_16,hfp_2,Int.toNat_natCast,Nat.mul_one,hq1_0,hq1_1,hq1_2,hq1_3,hq1_4,hq1_5,hq1_6,hq1_7,hq1_8,hq1_9,hq1_10,hq1_11,hq1_12,hq1_13,hq1_14,hq1_15,hq1_16,hq1_17,hq1_18,hq1_19,hq1_20,hq1_21,fze1_2_0,fze1_2_1,fze1_2_2,fze1_2_3,fze1_2_4,fze1_2_5,fze1_2_6,fze1_2_7,fze1_2_8,fze1_2_9,fze1_2_10,fze1_2_11,fze1_2_12,fze1_2_13,fze1_2_14,fze1_2_15,hxu1_2,hq2_0,hq2_1,hq2_2,hq2_3,hq2_4,hq2_5,hq2_6,hq2_7,hq2_8,hq2_9,hnie2_6,hnie2_7,hq3_0,hr1_3,hr3_0,hr3_5,hr3_6,hr3_71,hr3_70,hr3_8,hr3_10,hr3_124,hr3_123,hr3_15,hr3_17,hI3,hN3,hS3])
              refine (AppendInt32_fn _ _ _ ha16.own hB16 _ (by simp only [List.length_append,List.length_nil];omega)).mono ?_
              rintro r17 w17 hc17
              rw [wrap32,← hY3] at hc17
              have ha17 := ha16.trans hc17
              have hB17 : B ≤ w17.heap.size := Nat.le_trans hB ha17.upd.size
              have hv_17 := ha17.upd.blk_some hv hdv
              have hx1_17 := ha17.upd.blk_some hx1 hnx1
              have hx2_17 := ha17.upd.blk_some hx2 hnx2
              have hx3_17 := ha17.upd.blk_some hx3 hnx3
              repeat ((first | refine qA rfl ?_|apply qB|refine qC rfl ?_|apply qD|apply qE|apply qF|apply qG|apply qH);try simp (maxSteps:=1000000)(disch:=(first|omega|(simp only [qI,qJ,qK]<;>omega)|exact qL _)) only [go_sem,↓reduceIte,n0,reduceCtorEq,n1,n2,n3,n4,n5,i0,i1,i2,i3,i4,i5,i6,i7,hr1_3,hr3_0,hr3_5,hr3_6,hr3_71,hr3_70,hr3_8,hr3_10,hr3_124,hr3_123,hr3_15,hr3_17,hI3,hN3,hS3])
              refine ⟨⟨j3 + 1,_,by omega,rfl,rfl,ha17.eqs ?_⟩,?_⟩
              · rw [hcat3,List.flatMap_append,List.flatMap_cons,List.flatMap_nil,List.append_nil,← hTT3,hY3];simp only [List.append_assoc,List.append_nil,List.nil_append]
              · simp only [RowKit.intOf];omega
            · have hjl3 : j3 = (y2.at 4).l.length := by omega
              subst hjl3
              rw [List.take_length,← hXEe2_4] at ha16
              repeat ((first | refine qA rfl ?_|apply qB|refine qC rfl ?_|apply qD|apply qE|apply qF|apply qG|apply qH);try simp (maxSteps:=1000000)(disch:=(first|omega|(simp only [qI,qJ,qK]<;>omega)|exact qL _)) only [go_sem,↓reduceIte,n0,reduceCtorEq,n1,n2,n3,n4,n5,i0,i1,i2,i3,i4,i5,i6,i7,hI3,hN3])
              exact ⟨_,hr1_3,hr3_0,hr3_5,hr3_6,hr3_71,hr3_70,hr3_8,hr3_10,hr3_124,hr3_123,hr3_15,hr3_17,ha16⟩
          · rintro ρ w18 ⟨r18,hr1_4,hr4_0,hr4_5,hr4_6,hr4_71,hr4_70,hr4_8,hr4_10,hr4_124,hr4_123,hr4_15,hr4_17,ha18⟩
            have hB18 : B ≤ w18.heap.size := Nat.le_trans hB ha18.upd.size
            have hv_18 := ha18.upd.blk_some hv hdv
            have hx1_18 := ha18.upd.blk_some hx1 hnx1
            have hx2_18 := ha18.upd.blk_some hx2 hnx2
            repeat ((first | refine qA rfl ?_|apply qB|refine qC rfl ?_|apply qD|apply qE|apply qF|apply qG|apply qH);try simp (maxSteps:=1000000)(disch:=(first|omega|(simp only [qI,qJ,qK]<;>omega)|exact qL _)) only [go_sem,↓reduceIte,n0,reduceCtorEq,n1,n2,n3,n4,n5,i0,i1,i2,i3,i4,i5,i6,i7,hv_18,hx1_18,hx2_18,hfp_2,Int.toNat_natCast,Nat.mul_one,hq1_0,hq1_1,hq1_2,hq1_3,hq1_4,hq1_5,hq1_6,hq1_7,hq1_8,hq1_9,hq1_10,hq1_11,hq1_12,hq1_13,hq1_14,hq1_15,hq1_16,hq1_17,hq1_18,hq1_19,hq1_20,hq1_21,fze1_2_0,fze1_2_1,fze1_2_2,fze1_2_3,fze1_2_4,fze1_2_5,fze1_2_6,fze1_2_7,fze1_2_8,fze1_2_9,fze1_2_10,fze1_2_11,fze1_2_12,fze1_2_13,fze1_2_14,fze1_2_15,hxu1_2,hq2_0,hq2_1,hq2_2,hq2_3,hq2_4,hq2_5,hq2_6,hq2_7,hq2_8,hq2_9,hnie2_6,hnie2_7,hr1_4,hr4_0,hr4_5,hr4_6,hr4_71,hr4_70,hr4_8,hr4_10,hr4_124,hr4_123,hr4_15,hr4_17])
            refine (AppendCompactArrayLen_fn _ _ _ ha18.own hB18 (y2.at 5).l.length hlle2_5 (by simp only [List.length_append,List.length_nil];omega)).mono ?_
            rintro r19 w19 hc19
            rw [← hXLe2_5] at hc19
            have ha19 := ha18.trans hc19
            have hB19 : B ≤ w19.heap.size := Nat.le_trans hB ha19.upd.size
            have hv_19 := ha19.upd.blk_some hv hdv
            have hx1_19 := ha19.upd.blk_some hx1 hnx1
            have hx2_19 := ha19.upd.blk_some hx2 hnx2
            repeat ((first | refine qA rfl ?_|apply qB|refine qC rfl ?_|apply qD|apply qE|apply qF|apply qG|apply qH);try simp (maxSteps:=1000000)(disch:=(first|omega|(simp only [qI,qJ,qK]<;>omega)|exact qL _)) only [go_sem,↓reduceIte,n0,reduceCtorEq,n1,n2,n3,n4,n5,i0,i1,i2,i3,i4,i5,i6,i7,hv_19,hx1_19,hx2_19,hfp_2,Int.toNat_natCast,Nat.mul_one,hq1_0,hq1_1,hq1_2,hq1_3,hq1_4,hq1_5,hq1_6,hq1_7,hq1_8,hq1_9,hq1_10,hq1_11,hq1_12,hq1_13,hq1_14,hq1_15,hq1_16,hq1_17,hq1_18,hq1_19,hq1_20,hq1_21,fze1_2_0,fze1_2_1,fze1_2_2,fze1_2_3,fze1_2_4,fze1_2_5,fze1_2_6,fze1_2_7,fze1_2_8,fze1_2_9,fze1_2_10,fze1_2_11,fze1_2_12,fze1_2_13,fze1_2_14,fze1_2_15,hxu1_2,hq2_0,hq2_1,hq2_2,hq2_3,hq2_4,hq2_5,hq2_6,hq2_7,hq2_8,hq2_9,hnie2_6,hnie2_7,hr1_4,hr4_0,hr4_5,hr4_6,hr4_71,hr4_70,hr4_8,hr4_10,hr4_124,hr4_123,hr4_15,hr4_17])
            have hadd5 := ha19
            refine W.exitJ 6 (fun ρ w' => ∃ r,ρ 1 = r ∧ ρ 0 = .pointer (some ⟨vb,0,none⟩) ∧ ρ 5 = .int .i16 ver ∧ ρ 6 = .bool true ∧ ρ 71 = .int .i64 j1 ∧ ρ 70 = .int .i64 (t.at 1).l.length ∧ ρ 8 = .slice (some ⟨b1,o1,none⟩) (t.at 1).l.length ac_1 ∧ ρ 10 = .pointer (some ⟨b1,o1 + j1 * 22,none⟩) ∧ ρ 124 = .int .i64 j2 ∧ ρ 123 = .int .i64 (y1.at 4).l.length ∧ ρ 15 = .slice (some ⟨b2,o2,none⟩) (y1.at 4).l.length ace1_4 ∧ ρ 17 = .pointer (some ⟨b2,o2 + j2 * 10,none⟩) ∧ AppR 5 B w v s (([] ++ X_0 ++ XL_1 ++ T1 ++ Xe1_0 ++ Xe1_1 ++ Xe1_2 ++ Xe1_3 ++ XLe1_4 ++ T2 ++ Xe2_0 ++ Xe2_1 ++ Xe2_2 ++ Xe2_3 ++ XLe2_4 ++ XEe2_4 ++ XLe2_5) ++ XEe2_5) r w')
              (W.loop (fun ρ w' => ∃ (j : Nat) (r : Value),j ≤ (y2.at 5).l.length ∧ ρ 199 = .int .i64 j ∧ ρ 198 = .int .i64 (y2.at 5).l.length ∧ ρ 25 = .slice abe2_5 (y2.at 5).l.length ace2_5 ∧ ρ 1 = r ∧ ρ 0 = .pointer (some ⟨vb,0,none⟩) ∧ ρ 5 = .int .i16 ver ∧ ρ 6 = .bool true ∧ ρ 71 = .int .i64 j1 ∧ ρ 70 = .int .i64 (t.at 1).l.length ∧ ρ 8 = .slice (some ⟨b1,o1,none⟩) (t.at 1).l.length ac_1 ∧ ρ 10 = .pointer (some ⟨b1,o1 + j1 * 22,none⟩) ∧ ρ 124 = .int .i64 j2 ∧ ρ 123 = .int .i64 (y1.at 4).l.length ∧ ρ 15 = .slice (some ⟨b2,o2,none⟩) (y1.at 4).l.length ace1_4 ∧ ρ 17 = .pointer (some ⟨b2,o2 + j2 * 10,none⟩) ∧ AppR 5 B w v s (([] ++ X_0 ++ XL_1 ++ T1 ++ Xe1_0 ++ Xe1_1 ++ Xe1_2 ++ Xe1_3 ++ XLe1_4 ++ T2 ++ Xe2_0 ++ Xe2_1 ++ Xe2_2 ++ Xe2_3 ++ XLe2_4 ++ XEe2_4 ++ XLe2_5) ++ ((y2.at 5).l.take j).flatMap (fun x : Tree => fixedS x.n 4)) r w')
                (fun ρ _ => (y2.at 5).l.length - (RowKit.intOf (ρ 199)).toNat) ?_ ?_) ?_
            · refine ⟨0,_,Nat.zero_le _,?_,?_,?_,?_,?_,?_,?_,?_,?_,?_,?_,?_,?_,?_,?_,ha19.eqs (by rw [List.take_zero,List.flatMap_nil,List.append_nil])⟩ <;> simp (maxSteps:=1000000)(disch:=(first|omega|(simp only [qI,qJ,qK]<;>omega)|exact qL _)) only [go_sem,↓reduceIte,n0,reduceCtorEq,n1,n2,n3,n4,n5,i0,i1,i2,i3,i4,i5,i6,i7,hr1_4,hr4_0,hr4_5,hr4_6,hr4_71,hr4_70,hr4_8,hr4_10,hr4_124,hr4_123,hr4_15,hr4_17]
              all_goals rfl
            · rintro ρ w20 ⟨j5,r20,hj5,hI5,hN5,hS5,hr1_5,hr5_0,hr5_5,hr5_6,hr5_71,hr5_70,hr5_8,hr5_10,hr5_124,hr5_123,hr5_15,hr5_17,ha20⟩
              have hB20 : B ≤ w20.heap.size := Nat.le_trans hB ha20.upd.size
              have hv_20 := ha20.upd.blk_some hv hdv
              have hx1_20 := ha20.upd.blk_some hx1 hnx1
              have hx2_20 := ha20.upd.blk_some hx2 hnx2
              by_cases hlt5 : j5 < (y2.at 5).l.length
              · obtain ⟨_,b5,o5,x5,ce5,hb5,hok5,hx5,hbl5,hxs5,hxe5,hq5,hRe5⟩ := SlR.get (size := 1) (by decide) hse2_5 hlt5
                subst hb5
                have hcat5 : (y2.at 5).l.take (j5 + 1) = (y2.at 5).l.take j5 ++ [(y2.at 5).l[j5]] := List.take_succ_eq_append_getElem hlt5
                have htl5 := take_flatMap_len (y2.at 5).l (fun x : Tree => fixedS x.n 4) (j5 + 1)
                rw [← hXEe2_5,hcat5,List.flatMap_append,List.flatMap_cons,List.flatMap_nil,List.append_nil] at htl5
                have hge5 := hgle2_5.2 _ (List.getElem_mem hlt5)
                generalize (y2.at 5).l[j5] = y5 at *
                have hnx5 := hd b5 hbl5 hok5
                obtain ⟨T5,hTT5⟩ : ∃ T,T = ((y2.at 5).l.take j5).flatMap (fun x : Tree => fixedS x.n 4) := ⟨_,rfl⟩
                rw [← hTT5] at ha20 htl5
                have hx5_20 := ha20.upd.blk_some hx5 hnx5
                obtain rfl := (Rep1_num (by decide)).1 hRe5
                have hq5_0 : x5.1[o5 + j5]? = some (.int .i32 (IntKind.i32.wrap y5.n)) := by have := hq5 0 (by decide);rw [Nat.mul_one] at this;exact this
                obtain ⟨Y5,hY5⟩ : ∃ Y,Y = fixedS (y5).n 4 := ⟨_,rfl⟩
                replace htl5 : (T5 ++ Y5).length ≤ XEe2_5.length := by rw [hY5];exact htl5
                simp only [List.length_append] at htl5
                repeat ((first | refine qA rfl ?_|apply qB|refine qC rfl ?_|apply qD|apply qE|apply qF|apply qG|apply qH);try simp (maxSteps:=1000000)(disch:=(first|omega|(simp only [qI,qJ,qK]<;>omega)|exact qL _)) only [go_sem,↓reduceIte,n0,reduceCtorEq,n1,n2,n3,n4,n5,i0,i1,i2,i3,i4,i5,i6,i7,hv_20,hx1_20,hx2_20,hx5_20,hfp_2,Int.toNat_natCast,Nat.mul_one,hq1_0,hq1_1,hq1_2,hq1_3,hq1_4,hq1_5,hq1_6,hq1_7,hq1_8,hq1_9,hq1_10,hq1_11,hq1_12,hq1_13,hq1_14,hq1_15,hq1_16,hq1_17,hq1_18,hq1_19,hq1_20,hq1_21,fze1_2_0,fze1_2_1,fze1_2_2,fze1_2_3,fze1_2_4,fze1_2_5,fze1_2_6,fze1_2_7,fze1_2_8,fze1_2_9,fze1_2_10,fze1_2_11,fze1_2_12,fze1_2_13,fze1_2_14,fze1_2_15,hxu1_2,hq2_0,hq2_1,hq2_2,hq2_3,hq2_4,hq2_5,hq2_6,hq2_7,hq2_8,hq2_9,hnie2_6,hnie2_7,hq5_0,hr1_5,hr5_0,hr5_5,hr5_6,hr5_71,hr5_70,hr5_8,hr5_10,hr5_124,hr5_123,hr5_15,hr5_17,hI5,hN5,hS5])
                refine (AppendInt32_fn _ _ _ ha20.own hB20 _ (by simp only [List.length_append,List.length_nil];omega)).mono ?_
                rintro r21 w21 hc21
                rw [wrap32,← hY5] at hc21
                have ha21 := ha20.trans hc21
                have hB21 : B ≤ w21.heap.size := Nat.le_trans hB ha21.upd.size
                have hv_21 := ha21.upd.blk_some hv hdv
                have hx1_21 := ha21.upd.blk_some hx1 hnx1
                have hx2_21 := ha21.upd.blk_some hx2 hnx2
                have hx5_21 := ha21.upd.blk_some hx5 hnx5
                repeat ((first | refine qA rfl ?_|apply qB|refine qC rfl ?_|apply qD|apply qE|apply qF|apply qG|apply qH);try simp (maxSteps:=1000000)(disch:=(first|omega|(simp only [qI,qJ,qK]<;>omega)|exact qL _)) only [go_sem,↓reduceIte,n0,reduceCtorEq,n1,n2,n3,n4,n5,i0,i1,i2,i3,i4,i5,i6,i7,hr1_5,hr5_0,hr5_5,hr5_6,hr5_71,hr5_70,hr5_8,hr5_10,hr5_124,hr5_123,hr5_15,hr5_17,hI5,hN5,hS5])
                refine ⟨⟨j5 + 1,_,by omega,rfl,rfl,ha21.eqs ?_⟩,?_⟩
                · rw [hcat5,List.flatMap_append,List.flatMap_cons,List.flatMap_nil,List.append_nil,← hTT5,hY5];simp only [List.append_assoc,List.append_nil,List.nil_append]
                · simp only [RowKit.intOf];omega
              · have hjl5 : j5 = (y2.at 5).l.length := by omega
                subst hjl5
                rw [List.take_length,← hXEe2_5] at ha20
                repeat ((first | refine qA rfl ?_|apply qB|refine qC rfl ?_|apply qD|apply qE|apply qF|apply qG|apply qH);try simp (maxSteps:=1000000)(disch:=(first|omega|(simp only [qI,qJ,qK]<;>omega)|exact qL _)) only [go_sem,↓reduceIte,n0,reduceCtorEq,n1,n2,n3,n4,n5,i0,i1,i2,i3,i4,i5,i6,i7,hI5,hN5])
                exact ⟨_,hr1_5,hr5_0,hr5_5,hr5_6,hr5_71,hr5_70,hr5_8,hr5_10,hr5_124,hr5_123,hr5_15,hr5_17,ha20⟩
            · rintro ρ w22 ⟨r22,hr1_6,hr6_0,hr6_5,hr6_6,hr6_71,hr6_70,hr6_8,hr6_10,hr6_124,hr6_123,hr6_15,hr6_17,ha22⟩
              have hB22 : B ≤ w22.heap.size := Nat.le_trans hB ha22.upd.size
              have hv_22 := ha22.upd.blk_some hv hdv
              have hx1_22 := ha22.upd.blk_some hx1 hnx1
              have hx2_22 := ha22.upd.blk_some hx2 hnx2
              repeat ((first | refine qA rfl ?_|apply qB|refine qC rfl ?_|apply qD|apply qE|apply qF|apply qG|apply qH);try simp (maxSteps:=1000000)(disch:=(first|omega|(simp only [qI,qJ,qK]<;>omega)|exact qL _)) only [go_sem,↓reduceIte,n0,reduceCtorEq,n1,n2,n3,n4,n5,i0,i1,i2,i3,i4,i5,i6,i7,hv_22,hx1_22,hx2_22,hfp_2,Int.toNat_natCast,Nat.mul_one,hq1_0,hq1_1,hq1_2,hq1_3,hq1_4,hq1_5,hq1_6,hq1_7,hq1_8,hq1_9,hq1_10,hq1_11,hq1_12,hq1_13,hq1_14,hq1_15,hq1_16,hq1_17,hq1_18,hq1_19,hq1_20,hq1_21,fze1_2_0,fze1_2_1,fze1_2_2,fze1_2_3,fze1_2_4,fze1_2_5,fze1_2_6,fze1_2_7,fze1_2_8,fze1_2_9,fze1_2_10,fze1_2_11,fze1_2_12,fze1_2_13,fze1_2_14,fze1_2_15,hxu1_2,hq2_0,hq2_1,hq2_2,hq2_3,hq2_4,hq2_5,hq2_6,hq2_7,hq2_8,hq2_9,hnie2_6,hnie2_7,hr1_6,hr6_0,hr6_5,hr6_6,hr6_71,hr6_70,hr6_8,hr6_10,hr6_124,hr6_123,hr6_15,hr6_17])
              refine (AppendCompactNullableArrayLen_fn _ _ _ ha22.own hB22 Le2_6.length hlle2_6 (nullS frX0_6 ver (y2.at 6)) (by simp only [List.length_append,List.length_nil];omega)).mono ?_
              rintro r23 w23 hc23
              rw [← hXLe2_6] at hc23
              have ha23 := ha22.trans hc23
              have hB23 : B ≤ w23.heap.size := Nat.le_trans hB ha23.upd.size
              have hv_23 := ha23.upd.blk_some hv hdv
              have hx1_23 := ha23.upd.blk_some hx1 hnx1
              have hx2_23 := ha23.upd.blk_some hx2 hnx2
              repeat ((first | refine qA rfl ?_|apply qB|refine qC rfl ?_|apply qD|apply qE|apply qF|apply qG|apply qH);try simp (maxSteps:=1000000)(disch:=(first|omega|(simp only [qI,qJ,qK]<;>omega)|exact qL _)) only [go_sem,↓reduceIte,n0,reduceCtorEq,n1,n2,n3,n4,n5,i0,i1,i2,i3,i4,i5,i6,i7,hv_23,hx1_23,hx2_23,hfp_2,Int.toNat_natCast,Nat.mul_one,hq1_0,hq1_1,hq1_2,hq1_3,hq1_4,hq1_5,hq1_6,hq1_7,hq1_8,hq1_9,hq1_10,hq1_11,hq1_12,hq1_13,hq1_14,hq1_15,hq1_16,hq1_17,hq1_18,hq1_19,hq1_20,hq1_21,fze1_2_0,fze1_2_1,fze1_2_2,fze1_2_3,fze1_2_4,fze1_2_5,fze1_2_6,fze1_2_7,fze1_2_8,fze1_2_9,fze1_2_10,fze1_2_11,fze1_2_12,fze1_2_13,fze1_2_14,fze1_2_15,hxu1_2,hq2_0,hq2_1,hq2_2,hq2_3,hq2_4,hq2_5,hq2_6,hq2_7,hq2_8,hq2_9,hnie2_6,hnie2_7,hr1_6,hr6_0,hr6_5,hr6_6,hr6_71,hr6_70,hr6_8,hr6_10,hr6_124,hr6_123,hr6_15,hr6_17])
              have hadd7 := ha23
              refine W.exitJ 8 (fun ρ w' => ∃ r,ρ 1 = r ∧ ρ 0 = .pointer (some ⟨vb,0,none⟩) ∧ ρ 5 = .int .i16 ver ∧ ρ 6 = .bool true ∧ ρ 71 = .int .i64 j1 ∧ ρ 70 = .int .i64 (t.at 1).l.length ∧ ρ 8 = .slice (some ⟨b1,o1,none⟩) (t.at 1).l.length ac_1 ∧ ρ 10 = .pointer (some ⟨b1,o1 + j1 * 22,none⟩) ∧ ρ 124 = .int .i64 j2 ∧ ρ 123 = .int .i64 (y1.at 4).l.length ∧ ρ 15 = .slice (some ⟨b2,o2,none⟩) (y1.at 4).l.length ace1_4 ∧ ρ 17 = .pointer (some ⟨b2,o2 + j2 * 10,none⟩) ∧ AppR 5 B w v s (([] ++ X_0 ++ XL_1 ++ T1 ++ Xe1_0 ++ Xe1_1 ++ Xe1_2 ++ Xe1_3 ++ XLe1_4 ++ T2 ++ Xe2_0 ++ Xe2_1 ++ Xe2_2 ++ Xe2_3 ++ XLe2_4 ++ XEe2_4 ++ XLe2_5 ++ XEe2_5 ++ XLe2_6) ++ XEe2_6) r w')
                (W.loop (fun ρ w' => ∃ (j : Nat) (r : Value),j ≤ Le2_6.length ∧ ρ 229 = .int .i64 j ∧ ρ 228 = .int .i64 Le2_6.length ∧ ρ 28 = .slice abe2_6 Le2_6.length ace2_6 ∧ ρ 1 = r ∧ ρ 0 = .pointer (some ⟨vb,0,none⟩) ∧ ρ 5 = .int .i16 ver ∧ ρ 6 = .bool true ∧ ρ 71 = .int .i64 j1 ∧ ρ 70 = .int .i64 (t.at 1).l.length ∧ ρ 8 = .slice (some ⟨b1,o1,none⟩) (t.at 1).l.length ac_1 ∧ ρ 10 = .pointer (some ⟨b1,o1 + j1 * 22,none⟩) ∧ ρ 124 = .int .i64 j2 ∧ ρ 123 = .int .i64 (y1.at 4).l.length ∧ ρ 15 = .slice (some ⟨b2,o2,none⟩) (y1.at 4).l.length ace1_4 ∧ ρ 17 = .pointer (some ⟨b2,o2 + j2 * 10,none⟩) ∧ AppR 5 B w v s (([] ++ X_0 ++ XL_1 ++ T1 ++ Xe1_0 ++ Xe1_1 ++ Xe1_2 ++ Xe1_3 ++ XLe1_4 ++ T2 ++ Xe2_0 ++ Xe2_1 ++ Xe2_2 ++ Xe2_3 ++ XLe2_4 ++ XEe2_4 ++ XLe2_5 ++ XEe2_5 ++ XLe2_6) ++ (Le2_6.take j).flatMap (fun x : Tree => fixedS x.n 4)) r w')
                  (fun ρ _ => Le2_6.length - (RowKit.intOf (ρ 229)).toNat) ?_ ?_) ?_
              · refine ⟨0,_,Nat.zero_le _,?_,?_,?_,?_,?_,?_,?_,?_,?_,?_,?_,?_,?_,?_,?_,ha23.eqs (by rw [List.take_zero,List.flatMap_nil,List.append_nil])⟩ <;> simp (maxSteps:=1000000)(disch:=(first|omega|(simp only [qI,qJ,qK]<;>omega)|exact qL _)) only [go_sem,↓reduceIte,n0,reduceCtorEq,n1,n2,n3,n4,n5,i0,i1,i2,i3,i4,i5,i6,i7,hr1_6,hr6_0,hr6_5,hr6_6,hr6_71,hr6_70,hr6_8,hr6_10,hr6_124,hr6_123,hr6_15,hr6_17]
                all_goals rfl
              · rintro ρ w24 ⟨j7,r24,hj7,hI7,hN7,hS7,hr1_7,hr7_0,hr7_5,hr7_6,hr7_71,hr7_70,hr7_8,hr7_10,hr7_124,hr7_123,hr7_15,hr7_17,ha24⟩
                have hB24 : B ≤ w24.heap.size := Nat.le_trans hB ha24.upd.size
                have hv_24 := ha24.upd.blk_some hv hdv
                have hx1_24 := ha24.upd.blk_some hx1 hnx1
                have hx2_24 := ha24.upd.blk_some hx2 hnx2
                by_cases hlt7 : j7 < Le2_6.length
                · obtain ⟨_,b7,o7,x7,ce7,hb7,hok7,hx7,hbl7,hxs7,hxe7,hq7,hRe7⟩ := SlR.get (size := 1) (by decide) hse2_6 hlt7
                  subst hb7
                  have hcat7 : Le2_6.take (j7 + 1) = Le2_6.take j7 ++ [Le2_6[j7]] := List.take_succ_eq_append_getElem hlt7
                  have htl7 := take_flatMap_len Le2_6 (fun x : Tree => fixedS x.n 4) (j7 + 1)
                  rw [← hXEe2_6,hcat7,List.flatMap_append,List.flatMap_cons,List.flatMap_nil,List.append_nil] at htl7
                  have hge7 := hgle2_6.2 _ (List.getElem_mem hlt7)
                  generalize Le2_6[j7] = y7 at *
                  have hnx7 := hd b7 hbl7 hok7
                  obtain ⟨T7,hTT7⟩ : ∃ T,T = (Le2_6.take j7).flatMap (fun x : Tree => fixedS x.n 4) := ⟨_,rfl⟩
                  rw [← hTT7] at ha24 htl7
                  have hx7_24 := ha24.upd.blk_some hx7 hnx7
                  obtain rfl := (Rep1_num (by decide)).1 hRe7
                  have hq7_0 : x7.1[o7 + j7]? = some (.int .i32 (IntKind.i32.wrap y7.n)) := by have := hq7 0 (by decide);rw [Nat.mul_one] at this;exact this
                  obtain ⟨Y7,hY7⟩ : ∃ Y,Y = fixedS (y7).n 4 := ⟨_,rfl⟩
                  replace htl7 : (T7 ++ Y7).length ≤ XEe2_6.length := by rw [hY7];exact htl7
                  simp only [List.length_append] at htl7
                  repeat ((first | refine qA rfl ?_|apply qB|refine qC rfl ?_|apply qD|apply qE|apply qF|apply qG|apply qH);try simp (maxSteps:=1000000)(disch:=(first|omega|(simp only [qI,qJ,qK]<;>omega)|exact qL _)) only [go_sem,↓reduceIte,n0,reduceCtorEq,n1,n2,n3,n4,n5,i0,i1,i2,i3,i4,i5,i6,i7,hv_24,hx1_24,hx2_24,hx7_24,hfp_2,Int.toNat_natCast,Nat.mul_one,hq1_0,hq1_1,hq1_2,hq1_3,hq1_4,hq1_5,hq1_6,hq1_7,hq1_8,hq1_9,hq1_10,hq1_11,hq1_12,hq1_13,hq1_14,hq1_15,hq1_16,hq1_17,hq1_18,hq1_19,hq1_20,hq1_21,fze1_2_0,fze1_2_1,fze1_2_2,fze1_2_3,fze1_2_4,fze1_2_5,fze1_2_6,fze1_2_7,fze1_2_8,fze1_2_9,fze1_2_10,fze1_2_11,fze1_2_12,fze1_2_13,fze1_2_14,fze1_2_15,hxu1_2,hq2_0,hq2_1,hq2_2,hq2_3,hq2_4,hq2_5,hq2_6,hq2_7,hq2_8,hq2_9,hnie2_6,hnie2_7,hq7_0,hr1_7,hr7_0,hr7_5,hr7_6,hr7_71,hr7_70,hr7_8,hr7_10,hr7_124,hr7_123,hr7_15,hr7_17,hI7,hN7,hS7])
                  refine (AppendInt32_fn _ _ _ ha24.own hB24 _ (by simp only [List.length_append,List.length_nil];omega)).mono ?_
                  rintro r25 w25 hc25
                  rw [wrap32,← hY7] at hc25
                  have ha25 := ha24.trans hc25
                  have hB25 : B ≤ w25.heap.size := Nat.le_trans hB ha25.upd.size
                  have hv_25 := ha25.upd.blk_some hv hdv
                  have hx1_25 := ha25.upd.blk_some hx1 hnx1
                  have hx2_25 := ha25.upd.blk_some hx2 hnx2
                  have hx7_25 := ha25.upd.blk_some hx7 hnx7
                  repeat ((first | refine qA rfl ?_|apply qB|refine qC rfl ?_|apply qD|apply qE|apply qF|apply qG|apply qH);try simp (maxSteps:=1000000)(disch:=(first|omega|(simp only [qI,qJ,qK]<;>omega)|exact qL _)) only [go_sem,↓reduceIte,n0,reduceCtorEq,n1,n2,n3,n4,n5,i0,i1,i2,i3,i4,i5,i6,i7,hr1_7,hr7_0,hr7_5,hr7_6,hr7_71,hr7_70,hr7_8,hr7_10,hr7_124,hr7_123,hr7_15,hr7_17,hI7,hN7,hS7])
                  refine ⟨⟨j7 + 1,_,by omega,rfl,rfl,ha25.eqs ?_⟩,?_⟩
                  · rw [hcat7,List.flatMap_append,List.flatMap_cons,List.flatMap_nil,List.append_nil,← hTT7,hY7];simp only [List.append_assoc,List.append_nil,List.nil_append]
                  · simp only [RowKit.intOf];omega
                · have hjl7 : j7 = Le2_6.length := by omega
                  subst hjl7
                  rw [List.take_length,← hXEe2_6] at ha24
                  repeat ((first | refine qA rfl ?_|apply qB|refine qC rfl ?_|apply qD|apply qE|apply qF|apply qG|apply qH);try simp (maxSteps:=1000000)(disch:=(first|omega|(simp only [qI,qJ,qK]<;>omega)|exact qL _)) only [go_sem,↓reduceIte,n0,reduceCtorEq,n1,n2,n3,n4,n5,i0,i1,i2,i3,i4,i5,i6,i7,hI7,hN7])
                  exact ⟨_,hr1_7,hr7_0,hr7_5,hr7_6,hr7_71,hr7_70,hr7_8,hr7_10,hr7_124,hr7_123,hr7_15,hr7_17,ha24⟩
              · rintro ρ w26 ⟨r26,hr1_8,hr8_0,hr8_5,hr8_6,hr8_71,hr8_70,hr8_8,hr8_10,hr8_124,hr8_123,hr8_15,hr8_17,ha26⟩
                have hB26 : B ≤ w26.heap.size := Nat.le_trans hB ha26.upd.size
                have hv_26 := ha26.upd.blk_some hv hdv
                have hx1_26 := ha26.upd.blk_some hx1 hnx1
                have hx2_26 := ha26.upd.blk_some hx2 hnx2
                repeat ((first | refine qA rfl ?_|apply qB|refine qC rfl ?_|apply qD|apply qE|apply qF|apply qG|apply qH);try simp (maxSteps:=1000000)(disch:=(first|omega|(simp only [qI,qJ,qK]<;>omega)|exact qL _)) only [go_sem,↓reduceIte,n0,reduceCtorEq,n1,n2,n3,n4,n5,i0,i1,i2,i3,i4,i5,i6,i7,hv_26,hx1_26,hx2_26,hfp_2,Int.toNat_natCast,Nat.mul_one,hq1_0,hq1_1,hq1_2,hq1_3,hq1_4,hq1_5,hq1_6,hq1_7,hq1_8,hq1_9,hq1_10,hq1_11,hq1_12,hq1_13,hq1_14,hq1_15,hq1_16,hq1_17,hq1_18,hq1_19,hq1_20,hq1_21,fze1_2_0,fze1_2_1,fze1_2_2,fze1_2_3,fze1_2_4,fze1_2_5,fze1_2_6,fze1_2_7,fze1_2_8,fze1_2_9,fze1_2_10,fze1_2_11,fze1_2_12,fze1_2_13,fze1_2_14,fze1_2_15,hxu1_2,hq2_0,hq2_1,hq2_2,hq2_3,hq2_4,hq2_5,hq2_6,hq2_7,hq2_8,hq2_9,hnie2_6,hnie2_7,hr1_8,hr8_0,hr8_5,hr8_6,hr8_71,hr8_70,hr8_8,hr8_10,hr8_124,hr8_123,hr8_15,hr8_17])
                refine (AppendCompactNullableArrayLen_fn _ _ _ ha26.own hB26 Le2_7.length hlle2_7 (nullS frX0_7 ver (y2.at 7)) (by simp only [List.length_append,List.length_nil];omega)).mono ?_
                rintro r27 w27 hc27
                rw [← hXLe2_7] at hc27
                have ha27 := ha26.trans hc27
                have hB27 : B ≤ w27.heap.size := Nat.le_trans hB ha27.upd.size
                have hv_27 := ha27.upd.blk_some hv hdv
                have hx1_27 := ha27.upd.blk_some hx1 hnx1
                have hx2_27 := ha27.upd.blk_some hx2 hnx2
                repeat ((first | refine qA rfl ?_|apply qB|refine qC rfl ?_|apply qD|apply qE|apply qF|apply qG|apply qH);try simp (maxSteps:=1000000)(disch:=(first|omega|(simp only [qI,qJ,qK]<;>omega)|exact qL _)) only [go_sem,↓reduceIte,n0,reduceCtorEq,n1,n2,n3,n4,n5,i0,i1,i2,i3,i4,i5,i6,i7,hv_27,hx1_27,hx2_27,hfp_2,Int.toNat_natCast,Nat.mul_one,hq1_0,hq1_1,hq1_2,hq1_3,hq1_4,hq1_5,hq1_6,hq1_7,hq1_8,hq1_9,hq1_10,hq1_11,hq1_12,hq1_13,hq1_14,hq1_15,hq1_16,hq1_17,hq1_18,hq1_19,hq1_20,hq1_21,fze1_2_0,fze1_2_1,fze1_2_2,fze1_2_3,fze1_2_4,fze1_2_5,fze1_2_6,fze1_2_7,fze1_2_8,fze1_2_9,fze1_2_10,fze1_2_11,fze1_2_12,fze1_2_13,fze1_2_14,fze1_2_15,hxu1_2,hq2_0,hq2_1,hq2_2,hq2_3,hq2_4,hq2_5,hq2_6,hq2_7,hq2_8,hq2_9,hnie2_6,hnie2_7,hr1_8,hr8_0,hr8_5,hr8_6,hr8_71,hr8_70,hr8_8,hr8_10,hr8_124,hr8_123,hr8_15,hr8_17])
                have hadd9 := ha27
                refine W.exitJ 10 (fun ρ w' => ∃ r,ρ 1 = r ∧ ρ 0 = .pointer (some ⟨vb,0,none⟩) ∧ ρ 5 = .int .i16 ver ∧ ρ 6 = .bool true ∧ ρ 71 = .int .i64 j1 ∧ ρ 70 = .int .i64 (t.at 1).l.length ∧ ρ 8 = .slice (some ⟨b1,o1,none⟩) (t.at 1).l.length ac_1 ∧ ρ 10 = .pointer (some ⟨b1,o1 + j1 * 22,none⟩) ∧ ρ 124 = .int .i64 j2 ∧ ρ 123 = .int .i64 (y1.at 4).l.length ∧ ρ 15 = .slice (some ⟨b2,o2,none⟩) (y1.at 4).l.length ace1_4 ∧ ρ 17 = .pointer (some ⟨b2,o2 + j2 * 10,none⟩) ∧ AppR 5 B w v s (([] ++ X_0 ++ XL_1 ++ T1 ++ Xe1_0 ++ Xe1_1 ++ Xe1_2 ++ Xe1_3 ++ XLe1_4 ++ T2 ++ Xe2_0 ++ Xe2_1 ++ Xe2_2 ++ Xe2_3 ++ XLe2_4 ++ XEe2_4 ++ XLe2_5 ++ XEe2_5 ++ XLe2_6 ++ XEe2_6 ++ XLe2_7) ++ XEe2_7) r w')
                  (W.loop (fun ρ w' => ∃ (j : Nat) (r : Value),j ≤ Le2_7.length ∧ ρ 259 = .int .i64 j ∧ ρ 258 = .int .i64 Le2_7.length ∧ ρ 31 = .slice abe2_7 Le2_7.length ace2_7 ∧ ρ 1 = r ∧ ρ 0 = .pointer (some ⟨vb,0,none⟩) ∧ ρ 5 = .int .i16 ver ∧ ρ 6 = .bool true ∧ ρ 71 = .int .i64 j1 ∧ ρ 70 = .int .i64 (t.at 1).l.length ∧ ρ 8 = .slice (some ⟨b1,o1,none⟩) (t.at 1).l.length ac_1 ∧ ρ 10 = .pointer (some ⟨b1,o1 + j1 * 22,none⟩) ∧ ρ 124 = .int .i64 j2 ∧ ρ 123 = .int .i64 (y1.at 4).l.length ∧ ρ 15 = .slice (some ⟨b2,o2,none⟩) (y1.at 4).l.length ace1_4 ∧ ρ 17 = .pointer (some ⟨b2,o2 + j2 * 10,none⟩) ∧ AppR 5 B w v s (([] ++ X_0 ++ XL_1 ++ T1 ++ Xe1_0 ++ Xe1_1 ++ Xe1_2 ++ Xe1_3 ++ XLe1_4 ++ T2 ++ Xe2_0 ++ Xe2_1 ++ Xe2_2 ++ Xe2_3 ++ XLe2_4 ++ XEe2_4 ++ XLe2_5 ++ XEe2_5 ++ XLe2_6 ++ XEe2_6 ++ XLe2_7) ++ (Le2_7.take j).flatMap (fun x : Tree => fixedS x.n 4)) r w')
                    (fun ρ _ => Le2_7.length - (RowKit.intOf (ρ 259)).toNat) ?_ ?_) ?_
                · refine ⟨0,_,Nat.zero_le _,?_,?_,?_,?_,?_,?_,?_,?_,?_,?_,?_,?_,?_,?_,?_,ha27.eqs (by rw [List.take_zero,List.flatMap_nil,List.append_nil])⟩ <;> simp (maxSteps:=1000000)(disch:=(first|omega|(simp only [qI,qJ,qK]<;>omega)|exact qL _)) only [go_sem,↓reduceIte,n0,reduceCtorEq,n1,n2,n3,n4,n5,i0,i1,i2,i3,i4,i5,i6,i7,hr1_8,hr8_0,hr8_5,hr8_6,hr8_71,hr8_70,hr8_8,hr8_10,hr8_124,hr8_123,hr8_15,hr8_17]
                  all_goals rfl
                · rintro ρ w28 ⟨j9,r28,hj9,hI9,hN9,hS9,hr1_9,hr9_0,hr9_5,hr9_6,hr9_71,hr9_70,hr9_8,hr9_10,hr9_124,hr9_123,hr9_15,hr9_17,ha28⟩
                  have hB28 : B ≤ w28.heap.size := Nat.le_trans hB ha28.upd.size
                  have hv_28 := ha28.upd.blk_some hv hdv
                  have hx1_28 := ha28.upd.blk_some hx1 hnx1
                  have hx2_28 := ha28.upd.blk_some hx2 hnx2
                  by_cases hlt9 : j9 < Le2_7.length
                  · obtain ⟨_,b9,o9,x9,ce9,hb9,hok9,hx9,hbl9,hxs9,hxe9,hq9,hRe9⟩ := SlR.get (size := 1) (by decide) hse2_7 hlt9
                    subst hb9
                    have hcat9 : Le2_7.take (j9 + 1) = Le2_7.take j9 ++ [Le2_7[j9]] := List.take_succ_eq_append_getElem hlt9
                    have htl9 := take_flatMap_len Le2_7 (fun x : Tree => fixedS x.n 4) (j9 + 1)
                    rw [← hXEe2_7,hcat9,List.flatMap_append,List.flatMap_cons,List.flatMap_nil,List.append_nil] at htl9
                    have hge9 := hgle2_7.2 _ (List.getElem_mem hlt9)
                    generalize Le2_7[j9] = y9 at *
                    have hnx9 := hd b9 hbl9 hok9
                    obtain ⟨T9,hTT9⟩ : ∃ T,T = (Le2_7.take j9).flatMap (fun x : Tree => fixedS x.n 4) := ⟨_,rfl⟩
                    rw [← hTT9] at ha28 htl9
                    have hx9_28 := ha28.upd.blk_some hx9 hnx9
                    obtain rfl := (Rep1_num (by decide)).1 hRe9
                    have hq9_0 : x9.1[o9 + j9]? = some (.int .i32 (IntKind.i32.wrap y9.n)) := by have := hq9 0 (by decide);rw [Nat.mul_one] at this;exact this
                    obtain ⟨Y9,hY9⟩ : ∃ Y,Y = fixedS (y9).n 4 := ⟨_,rfl⟩
                    replace htl9 : (T9 ++ Y9).length ≤ XEe2_7.length := by rw [hY9];exact htl9
                    simp only [List.length_append] at htl9
                    repeat ((first | refine qA rfl ?_|apply qB|refine qC rfl ?_|apply qD|apply qE|apply qF|apply qG|apply qH);try simp (maxSteps:=1000000)(disch:=(first|omega|(simp only [qI,qJ,qK]<;>omega)|exact qL _)) only [go_sem,↓reduceIte,n0,reduceCtorEq,n1,n2,n3,n4,n5,i0,i1,i2,i3,i4,i5,i6,i7,hv_28,hx1_28,hx2_28,hx9_28,hfp_2,Int.toNat_natCast,Nat.mul_one,hq1_0,hq1_1,hq1_2,hq1_3,hq1_4,hq1_5,hq1_6,hq1_7,hq1_8,hq1_9,hq1_10,hq1_11,hq1_12,hq1_13,hq1_14,hq1_15,hq1_16,hq1_17,hq1_18,hq1_19,hq1_20,hq1_21,fze1_2_0,fze1_2_1,fze1_2_2,fze1_2_3,fze1_2_4,fze1_2_5,fze1_2_6,fze1_2_7,fze1_2_8,fze1_2_9,fze1_2_10,fze1_2_11,fze1_2_12,fze1_2_13,fze1_2_14,fze1_2_15,hxu1_2,hq2_0,hq2_1,hq2_2,hq2_3,hq2_4,hq2_5,hq2_6,hq2_7,hq2_8,hq2_9,hnie2_6,hnie2_7,hq9_0,hr1_9,hr9_0,hr9_5,hr9_6,hr9_71,hr9_70,hr9_8,hr9_10,hr9_124,hr9_123,hr9_15,hr9_17,hI9,hN9,hS9])
                    refine (AppendInt32_fn _ _ _ ha28.own hB28 _ (by simp only [List.length_append,List.length_nil];omega)).mono ?_
                    rintro r29 w29 hc29
                    rw [wrap32,← hY9] at hc29
                    have ha29 := ha28.trans hc29
                    have hB29 : B ≤ w29.heap.size := Nat.le_trans hB ha29.upd.size
                    have hv_29 := ha29.upd.blk_some hv hdv
                    have hx1_29 := ha29.upd.blk_some hx1 hnx1
                    have hx2_29 := ha29.upd.blk_some hx2 hnx2
                    have hx9_29 := ha29.upd.blk_some hx9 hnx9
                    repeat ((first | refine qA rfl ?_|apply qB|refine qC rfl ?_|apply qD|apply qE|apply qF|apply qG|apply qH);try simp (maxSteps:=1000000)(disch:=(first|omega|(simp only [qI,qJ,qK]<;>omega)|exact qL _)) only [go_sem,↓reduceIte,n0,reduceCtorEq,n1,n2,n3,n4,n5,i0,i1,i2,i3,i4,i5,i6,i7,hr1_9,hr9_0,hr9_5,hr9_6,hr9_71,hr9_70,hr9_8,hr9_10,hr9_124,hr9_123,hr9_15,hr9_17,hI9,hN9,hS9])
                    refine ⟨⟨j9 + 1,_,by omega,rfl,rfl,ha29.eqs ?_⟩,?_⟩
                    · rw [hcat9,List.flatMap_append,List.flatMap_cons,List.flatMap_nil,List.append_nil,← hTT9,hY9];simp only [List.append_assoc,List.append_nil,List.nil_append]
                    · simp only [RowKit.intOf];omega
                  · have hjl9 : j9 = Le2_7.length := by omega
                    subst hjl9
                    rw [List.take_length,← hXEe2_7] at ha28
                    repeat ((first | refine qA rfl ?_|apply qB|refine qC rfl ?_|apply qD|apply qE|apply qF|apply qG|apply qH);try simp (maxSteps:=1000000)(disch:=(first|omega|(simp only [qI,qJ,qK]<;>omega)|exact qL _)) only [go_sem,↓reduceIte,n0,reduceCtorEq,n1,n2,n3,n4,n5,i0,i1,i2,i3,i4,i5,i6,i7,hI9,hN9])
                    exact ⟨_,hr1_9,hr9_0,hr9_5,hr9_6,hr9_71,hr9_70,hr9_8,hr9_10,hr9_124,hr9_123,hr9_15,hr9_17,ha28⟩
                · rintro ρ w30 ⟨r30,hr1_10,hr10_0,hr10_5,hr10_6,hr10_71,hr10_70,hr10_8,hr10_10,hr10_124,hr10_123,hr10_15,hr10_17,ha30⟩
                  have hB30 : B ≤ w30.heap.size := Nat.le_trans hB ha30.upd.size
                  have hv_30 := ha30.upd.blk_some hv hdv
                  have hx1_30 := ha30.upd.blk_some hx1 hnx1
                  have hx2_30 := ha30.upd.blk_some hx2 hnx2
                  repeat ((first | refine qA rfl ?_|apply qB|refine qC rfl ?_|apply qD|apply qE|apply qF|apply qG|apply qH);try simp (maxSteps:=1000000)(disch:=(first|omega|(simp only [qI,qJ,qK]<;>omega)|exact qL _)) only [go_sem,↓reduceIte,n0,reduceCtorEq,n1,n2,n3,n4,n5,i0,i1,i2,i3,i4,i5,i6,i7,hv_30,hx1_30,hx2_30,hfp_2,Int.toNat_natCast,Nat.mul_one,hq1_0,hq1_1,hq1_2,hq1_3,hq1_4,hq1_5,hq1_6,hq1_7,hq1_8,hq1_9,hq1_10,hq1_11,hq1_12,hq1_13,hq1_14,hq1_15,hq1_16,hq1_17,hq1_18,hq1_19,hq1_20,hq1_21,fze1_2_0,fze1_2_1,fze1_2_2,fze1_2_3,fze1_2_4,fze1_2_5,fze1_2_6,fze1_2_7,fze1_2_8,fze1_2_9,fze1_2_10,fze1_2_11,fze1_2_12,fze1_2_13,fze1_2_14,fze1_2_15,hxu1_2,hq2_0,hq2_1,hq2_2,hq2_3,hq2_4,hq2_5,hq2_6,hq2_7,hq2_8,hq2_9,hnie2_6,hnie2_7,hr1_10,hr10_0,hr10_5,hr10_6,hr10_71,hr10_70,hr10_8,hr10_10,hr10_124,hr10_123,hr10_15,hr10_17])
                  refine (AppendCompactArrayLen_fn _ _ _ ha30.own hB30 (y2.at 8).l.length hlle2_8 (by simp only [List.length_append,List.length_nil];omega)).mono ?_
                  rintro r31 w31 hc31
                  rw [← hXLe2_8] at hc31
                  have ha31 := ha30.trans hc31
                  have hB31 : B ≤ w31.heap.size := Nat.le_trans hB ha31.upd.size
                  have hv_31 := ha31.upd.blk_some hv hdv
                  have hx1_31 := ha31.upd.blk_some hx1 hnx1
                  have hx2_31 := ha31.upd.blk_some hx2 hnx2
                  repeat ((first | refine qA rfl ?_|apply qB|refine qC rfl ?_|apply qD|apply qE|apply qF|apply qG|apply qH);try simp (maxSteps:=1000000)(disch:=(first|omega|(simp only [qI,qJ,qK]<;>omega)|exact qL _)) only [go_sem,↓reduceIte,n0,reduceCtorEq,n1,n2,n3,n4,n5,i0,i1,i2,i3,i4,i5,i6,i7,hv_31,hx1_31,hx2_31,hfp_2,Int.toNat_natCast,Nat.mul_one,hq1_0,hq1_1,hq1_2,hq1_3,hq1_4,hq1_5,hq1_6,hq1_7,hq1_8,hq1_9,hq1_10,hq1_11,hq1_12,hq1_13,hq1_14,hq1_15,hq1_16,hq1_17,hq1_18,hq1_19,hq1_20,hq1_21,fze1_2_0,fze1_2_1,fze1_2_2,fze1_2_3,fze1_2_4,fze1_2_5,fze1_2_6,fze1_2_7,fze1_2_8,fze1_2_9,fze1_2_10,fze1_2_11,fze1_2_12,fze1_2_13,fze1_2_14,fze1_2_15,hxu1_2,hq2_0,hq2_1,hq2_2,hq2_3,hq2_4,hq2_5,hq2_6,hq2_7,hq2_8,hq2_9,hnie2_6,hnie2_7,hr1_10,hr10_0,hr10_5,hr10_6,hr10_71,hr10_70,hr10_8,hr10_10,hr10_124,hr10_123,hr10_15,hr10_17])
                  have hadd11 := ha31
                  refine W.exitJ 12 (fun ρ w' => ∃ r,ρ 1 = r ∧ ρ 0 = .pointer (some ⟨vb,0,none⟩) ∧ ρ 5 = .int .i16 ver ∧ ρ 6 = .bool true ∧ ρ 71 = .int .i64 j1 ∧ ρ 70 = .int .i64 (t.at 1).l.length ∧ ρ 8 = .slice (some ⟨b1,o1,none⟩) (t.at 1).l.length ac_1 ∧ ρ 10 = .pointer (some ⟨b1,o1 + j1 * 22,none⟩) ∧ ρ 124 = .int .i64 j2 ∧ ρ 123 = .int .i64 (y1.at 4).l.length ∧ ρ 15 = .slice (some ⟨b2,o2,none⟩) (y1.at 4).l.length ace1_4 ∧ ρ 17 = .pointer (some ⟨b2,o2 + j2 * 10,none⟩) ∧ AppR 5 B w v s (([] ++ X_0 ++ XL_1 ++ T1 ++ Xe1_0 ++ Xe1_1 ++ Xe1_2 ++ Xe1_3 ++ XLe1_4 ++ T2 ++ Xe2_0 ++ Xe2_1 ++ Xe2_2 ++ Xe2_3 ++ XLe2_4 ++ XEe2_4 ++ XLe2_5 ++ XEe2_5 ++ XLe2_6 ++ XEe2_6 ++ XLe2_7 ++ XEe2_7 ++ XLe2_8) ++ XEe2_8) r w')
                    (W.loop (fun ρ w' => ∃ (j : Nat) (r : Value),j ≤ (y2.at 8).l.length ∧ ρ 285 = .int .i64 j ∧ ρ 284 = .int .i64 (y2.at 8).l.length ∧ ρ 34 = .slice abe2_8 (y2.at 8).l.length ace2_8 ∧ ρ 1 = r ∧ ρ 0 = .pointer (some ⟨vb,0,none⟩) ∧ ρ 5 = .int .i16 ver ∧ ρ 6 = .bool true ∧ ρ 71 = .int .i64 j1 ∧ ρ 70 = .int .i64 (t.at 1).l.length ∧ ρ 8 = .slice (some ⟨b1,o1,none⟩) (t.at 1).l.length ac_1 ∧ ρ 10 = .pointer (some ⟨b1,o1 + j1 * 22,none⟩) ∧ ρ 124 = .int .i64 j2 ∧ ρ 123 = .int .i64 (y1.at 4).l.length ∧ ρ 15 = .slice (some ⟨b2,o2,none⟩) (y1.at 4).l.length ace1_4 ∧ ρ 17 = .pointer (some ⟨b2,o2 + j2 * 10,none⟩) ∧ AppR 5 B w v s (([] ++ X_0 ++ XL_1 ++ T1 ++ Xe1_0 ++ Xe1_1 ++ Xe1_2 ++ Xe1_3 ++ XLe1_4 ++ T2 ++ Xe2_0 ++ Xe2_1 ++ Xe2_2 ++ Xe2_3 ++ XLe2_4 ++ XEe2_4 ++ XLe2_5 ++ XEe2_5 ++ XLe2_6 ++ XEe2_6 ++ XLe2_7 ++ XEe2_7 ++ XLe2_8) ++ ((y2.at 8).l.take j).flatMap (fun x : Tree => fixedS x.n 4)) r w')
                      (fun ρ _ => (y2.at 8).l.length - (RowKit.intOf (ρ 285)).toNat) ?_ ?_) ?_
                  · refine ⟨0,_,Nat.zero_le _,?_,?_,?_,?_,?_,?_,?_,?_,?_,?_,?_,?_,?_,?_,?_,ha31.eqs (by rw [List.take_zero,List.flatMap_nil,List.append_nil])⟩ <;> simp (maxSteps:=1000000)(disch:=(first|omega|(simp only [qI,qJ,qK]<;>omega)|exact qL _)) only [go_sem,↓reduceIte,n0,reduceCtorEq,n1,n2,n3,n4,n5,i0,i1,i2,i3,i4,i5,i6,i7,hr1_10,hr10_0,hr10_5,hr10_6,hr10_71,hr10_70,hr10_8,hr10_10,hr10_124,hr10_123,hr10_15,hr10_17]
                    all_goals rfl
                  · rintro ρ w32 ⟨j11,r32,hj11,hI11,hN11,hS11,hr1_11,hr11_0,hr11_5,hr11_6,hr11_71,hr11_70,hr11_8,hr11_10,hr11_124,hr11_123,hr11_15,hr11_17,ha32⟩
                    have hB32 : B ≤ w32.heap.size := Nat.le_trans hB ha32.upd.size
                    have hv_32 := ha32.upd.blk_some hv hdv
                    have hx1_32 := ha32.upd.blk_some hx1 hnx1
                    have hx2_32 := ha32.upd.blk_some hx2 hnx2
                    by_cases hlt11 : j11 < (y2.at 8).l.length
                    · obtain ⟨_,b11,o11,x11,ce11,hb11,hok11,hx11,hbl11,hxs11,hxe11,hq11,hRe11⟩ := SlR.get (size := 1) (by decide) hse2_8 hlt11
                      subst hb11
                      have hcat11 : (y2.at 8).l.take (j11 + 1) = (y2.at 8).l.take j11 ++ [(y2.at 8).l[j11]] := List.take_succ_eq_append_getElem hlt11
                      have htl11 := take_flatMap_len (y2.at 8).l (fun x : Tree => fixedS x.n 4) (j11 + 1)
                      rw [← hXEe2_8,hcat11,List.flatMap_append,List.flatMap_cons,List.flatMap_nil,List.append_nil] at htl11
                      have hge11 := hgle2_8.2 _ (List.getElem_mem hlt11)
                      generalize (y2.at 8).l[j11] = y11 at *
                      have hnx11 := hd b11 hbl11 hok11
                      obtain ⟨T11,hTT11⟩ : ∃ T,T = ((y2.at 8).l.take j11).flatMap (fun x : Tree => fixedS x.n 4) := ⟨_,rfl⟩
                      rw [← hTT11] at ha32 htl11
                      have hx11_32 := ha32.upd.blk_some hx11 hnx11
                      obtain rfl := (Rep1_num (by decide)).1 hRe11
                      have hq11_0 : x11.1[o11 + j11]? = some (.int .i32 (IntKind.i32.wrap y11.n)) := by have := hq11 0 (by decide);rw [Nat.mul_one] at this;exact this
                      obtain ⟨Y11,hY11⟩ : ∃ Y,Y = fixedS (y11).n 4 := ⟨_,rfl⟩
                      replace htl11 : (T11 ++ Y11).length ≤ XEe2_8.length := by rw [hY11];exact htl11
                      simp only [List.length_append] at htl11
                      repeat ((first | refine qA rfl ?_|apply qB|refine qC rfl ?_|apply qD|apply qE|apply qF|apply qG|apply qH);try simp (maxSteps:=1000000)(disch:=(first|omega|(simp only [qI,qJ,qK]<;>omega)|exact qL _)) only [go_sem,↓reduceIte,n0,reduceCtorEq,n1,n2,n3,n4,n5,i0,i1,i2,i3,i4,i5,i6,i7,hv_32,hx1_32,hx2_32,hx11_32,hfp_2,Int.toNat_natCast,Nat.mul_one,hq1_0,hq1_1,hq1_2,hq1_3,hq1_4,hq1_5,hq1_6,hq1_7,hq1_8,hq1_9,hq1_10,hq1_11,hq1_12,hq1_13,hq1_14,hq1_15,hq1_16,hq1_17,hq1_18,hq1_19,hq1_20,hq1_21,fze1_2_0,fze1_2_1,fze1_2_2,fze1_2_3,fze1_2_4,fze1_2_5,fze1_2_6,fze1_2_7,fze1_2_8,fze1_2_9,fze1_2_10,fze1_2_11,fze1_2_12,fze1_2_13,fze1_2_14,fze1_2_15,hxu1_2,hq2_0,hq2_1,hq2_2,hq2_3,hq2_4,hq2_5,hq2_6,hq2_7,hq2_8,hq2_9,hnie2_6,hnie2_7,hq11_0,hr1_11,hr11_0,hr11_5,hr11_6,hr11_71,hr11_70,hr11_8,hr11_10,hr11_124,hr11_123,hr11_15,hr11_17,hI11,hN11,hS11])
                      refine (AppendInt32_fn _ _ _ ha32.own hB32 _ (by simp only [List.length_append,List.length_nil];omega)).mono ?_
                      rintro r33 w33 hc33
                      rw [wrap32,← hY11] at hc33
                      have ha33 := ha32.trans hc33
                      have hB33 : B ≤ w33.heap.size := Nat.le_trans hB ha33.upd.size
                      have hv_33 := ha33.upd.blk_some hv hdv
                      have hx1_33 := ha33.upd.blk_some hx1 hnx1
                      have hx2_33 := ha33.upd.blk_some hx2 hnx2
                      have hx11_33 := ha33.upd.blk_some hx11 hnx11
                      repeat ((first | refine qA rfl ?_|apply qB|refine qC rfl ?_|apply qD|apply qE|apply qF|apply qG|apply qH);try simp (maxSteps:=1000000)(disch:=(first|omega|(simp only [qI,qJ,qK]<;>omega)|exact qL _)) only [go_sem,↓reduceIte,n0,reduceCtorEq,n1,n2,n3,n4,n5,i0,i1,i2,i3,i4,i5,i6,i7,hr1_11,hr11_0,hr11_5,hr11_6,hr11_71,hr11_70,hr11_8,hr11_10,hr11_124,hr11_123,hr11_15,hr11_17,hI11,hN11,hS11])
                      refine ⟨⟨j11 + 1,_,by omega,rfl,rfl,ha33.eqs ?_⟩,?_⟩
                      · rw [hcat11,List.flatMap_append,List.flatMap_cons,List.flatMap_nil,List.append_nil,← hTT11,hY11];simp only [List.append_assoc,List.append_nil,List.nil_append]
                      · simp only [RowKit.intOf];omega
                    · have hjl11 : j11 = (y2.at 8).l.length := by omega
                      subst hjl11
                      rw [List.take_length,← hXEe2_8] at ha32
                      repeat ((first | refine qA rfl ?_|apply qB|refine qC rfl ?_|apply qD|apply qE|apply qF|apply qG|apply qH);try simp (maxSteps:=1000000)(disch:=(first|omega|(simp only [qI,qJ,qK]<;>omega)|exact qL _)) only [go_sem,↓reduceIte,n0,reduceCtorEq,n1,n2,n3,n4,n5,i0,i1,i2,i3,i4,i5,i6,i7,hI11,hN11])
                      exact ⟨_,hr1_11,hr11_0,hr11_5,hr11_6,hr11_71,hr11_70,hr11_8,hr11_10,hr11_124,hr11_123,hr11_15,hr11_17,ha32⟩
                  · rintro ρ w34 ⟨r34,hr1_12,hr12_0,hr12_5,hr12_6,hr12_71,hr12_70,hr12_8,hr12_10,hr12_124,hr12_123,hr12_15,hr12_17,ha34⟩
                    have hB34 : B ≤ w34.heap.size := Nat.le_trans hB ha34.upd.size
                    have hv_34 := ha34.upd.blk_some hv hdv
                    have hx1_34 := ha34.upd.blk_some hx1 hnx1
                    have hx2_34 := ha34.upd.blk_some hx2 hnx2
                    repeat ((first | refine qA rfl ?_|apply qB|refine qC rfl ?_|apply qD|apply qE|apply qF|apply qG|apply qH);try simp (maxSteps:=1000000)(disch:=(first|omega|(simp only [qI,qJ,qK]<;>omega)|exact qL _)) only [go_sem,↓reduceIte,n0,reduceCtorEq,n1,n2,n3,n4,n5,i0,i1,i2,i3,i4,i5,i6,i7,hv_34,hx1_34,hx2_34,hfp_2,Int.toNat_natCast,Nat.mul_one,hq1_0,hq1_1,hq1_2,hq1_3,hq1_4,hq1_5,hq1_6,hq1_7,hq1_8,hq1_9,hq1_10,hq1_11,hq1_12,hq1_13,hq1_14,hq1_15,hq1_16,hq1_17,hq1_18,hq1_19,hq1_20,hq1_21,fze1_2_0,fze1_2_1,fze1_2_2,fze1_2_3,fze1_2_4,fze1_2_5,fze1_2_6,fze1_2_7,fze1_2_8,fze1_2_9,fze1_2_10,fze1_2_11,fze1_2_12,fze1_2_13,fze1_2_14,fze1_2_15,hxu1_2,hq2_0,hq2_1,hq2_2,hq2_3,hq2_4,hq2_5,hq2_6,hq2_7,hq2_8,hq2_9,hnie2_6,hnie2_7,hr1_12,hr12_0,hr12_5,hr12_6,hr12_71,hr12_70,hr12_8,hr12_10,hr12_124,hr12_123,hr12_15,hr12_17])
                    have hTk34 : TagsM (OkS okM w.heap.size) w34 (.map qme2) y2.u := (hTe2.weaken fun b h1 h2 => ⟨h2,h1⟩).keep (ha34.upd.keeps fun b hb hk => hd b hb hk.1)
                    refine (TagsLen_fn (ok := OkS okM w.heap.size) w34 hx2_34 (to := o2 + (j2 * 10 + 9)) hq2_9 hTk34).mono ?_
                    rintro _ w34' ⟨rfl,rfl⟩
                    have hul34 : y2.u.length ≤ 32767 := hfue2.1
                    have ew34 : IntKind.u32.wrap (y2.u.length : Int) = y2.u.length := u32_wrap (by omega)
                    have ez34 : IntKind.u32.wrap (0 + (y2.u.length : Int)) = y2.u.length := by rw [Int.zero_add,u32_wrap (by omega)]
                    simp (maxSteps:=1000000)(disch:=(first|omega|(simp only [qI,qJ,qK]<;>omega)|exact qL _)) only [go_sem,↓reduceIte,n0,reduceCtorEq,n1,n2,n3,n4,n5,i0,i1,i2,i3,i4,i5,i6,i7,hv_34,hx1_34,hx2_34,hfp_2,Int.toNat_natCast,Nat.mul_one,hq1_0,hq1_1,hq1_2,hq1_3,hq1_4,hq1_5,hq1_6,hq1_7,hq1_8,hq1_9,hq1_10,hq1_11,hq1_12,hq1_13,hq1_14,hq1_15,hq1_16,hq1_17,hq1_18,hq1_19,hq1_20,hq1_21,fze1_2_0,fze1_2_1,fze1_2_2,fze1_2_3,fze1_2_4,fze1_2_5,fze1_2_6,fze1_2_7,fze1_2_8,fze1_2_9,fze1_2_10,fze1_2_11,fze1_2_12,fze1_2_13,fze1_2_14,fze1_2_15,hxu1_2,hq2_0,hq2_1,hq2_2,hq2_3,hq2_4,hq2_5,hq2_6,hq2_7,hq2_8,hq2_9,hnie2_6,hnie2_7,hr1_12,hr12_0,hr12_5,hr12_6,hr12_71,hr12_70,hr12_8,hr12_10,hr12_124,hr12_123,hr12_15,hr12_17,ew34,ez34]
                    refine (AppendUvarint_fn _ _ _ ha34.own hB34 y2.u.length (by omega) (by simp only [List.length_append,List.length_nil];omega)).mono ?_
                    rintro r35 w35 hc35
                    rw [← hXUe2] at hc35
                    have ha35 := ha34.trans hc35
                    have hB35 : B ≤ w35.heap.size := Nat.le_trans hB ha35.upd.size
                    have hv_35 := ha35.upd.blk_some hv hdv
                    have hx1_35 := ha35.upd.blk_some hx1 hnx1
                    have hx2_35 := ha35.upd.blk_some hx2 hnx2
                    repeat ((first | refine qA rfl ?_|apply qB|refine qC rfl ?_|apply qD|apply qE|apply qF|apply qG|apply qH);try simp (maxSteps:=1000000)(disch:=(first|omega|(simp only [qI,qJ,qK]<;>omega)|exact qL _)) only [go_sem,↓reduceIte,n0,reduceCtorEq,n1,n2,n3,n4,n5,i0,i1,i2,i3,i4,i5,i6,i7,hv_35,hx1_35,hx2_35,hfp_2,Int.toNat_natCast,Nat.mul_one,hq1_0,hq1_1,hq1_2,hq1_3,hq1_4,hq1_5,hq1_6,hq1_7,hq1_8,hq1_9,hq1_10,hq1_11,hq1_12,hq1_13,hq1_14,hq1_15,hq1_16,hq1_17,hq1_18,hq1_19,hq1_20,hq1_21,fze1_2_0,fze1_2_1,fze1_2_2,fze1_2_3,fze1_2_4,fze1_2_5,fze1_2_6,fze1_2_7,fze1_2_8,fze1_2_9,fze1_2_10,fze1_2_11,fze1_2_12,fze1_2_13,fze1_2_14,fze1_2_15,hxu1_2,hq2_0,hq2_1,hq2_2,hq2_3,hq2_4,hq2_5,hq2_6,hq2_7,hq2_8,hq2_9,hnie2_6,hnie2_7,hr1_12,hr12_0,hr12_5,hr12_6,hr12_71,hr12_70,hr12_8,hr12_10,hr12_124,hr12_123,hr12_15,hr12_17])
                    have hTk35 : TagsM (OkS okM w.heap.size) w35 (.map qme2) y2.u := (hTe2.weaken fun b h1 h2 => ⟨h2,h1⟩).keep (ha35.upd.keeps fun b hb hk => hd b hb hk.1)
                    refine (AppendEach_fn (ok := OkS okM w.heap.size) _ _ _ ha35.own hB35 hx2_35 (to := o2 + (j2 * 10 + 9)) hq2_9 hTk35 (rising_keys hfue2) hfue2.1 (tags_small hfue2 hTk35) (hdK ha35) (ownK ha35 (blk_lt hx2) hnx2) (by simp only [List.length_append,List.length_nil];omega)).mono ?_
                    rintro r36 w36 hc36
                    rw [← hXTe2] at hc36
                    have ha36 := ha35.trans hc36
                    have hB36 : B ≤ w36.heap.size := Nat.le_trans hB ha36.upd.size
                    have hv_36 := ha36.upd.blk_some hv hdv
                    have hx1_36 := ha36.upd.blk_some hx1 hnx1
                    have hx2_36 := ha36.upd.blk_some hx2 hnx2
                    repeat ((first | refine qA rfl ?_|apply qB|refine qC rfl ?_|apply qD|apply qE|apply qF|apply qG|apply qH);try simp (maxSteps:=1000000)(disch:=(first|omega|(simp only [qI,qJ,qK]<;>omega)|exact qL _)) only [go_sem,↓reduceIte,n0,reduceCtorEq,n1,n2,n3,n4,n5,i0,i1,i2,i3,i4,i5,i6,i7,hr1_12,hr12_0,hr12_5,hr12_6,hr12_71,hr12_70,hr12_8,hr12_10,hr12_124,hr12_123,hr12_15,hr12_17])
                    refine ⟨⟨j2 + 1,_,by omega,rfl,rfl,ha36.eqs ?_⟩,?_⟩
                    · rw [hcat2,List.flatMap_append,List.flatMap_cons,List.flatMap_nil,List.append_nil,← hTT2,hPe2];simp only [List.append_assoc,List.append_nil,List.nil_append]
                    · simp only [RowKit.intOf];omega
        · have hjl2 : j2 = (y1.at 4).l.length := by omega
          subst hjl2
          rw [List.take_length,← hXEe1_4] at ha10
          repeat ((first | refine qA rfl ?_|apply qB|refine qC rfl ?_|apply qD|apply qE|apply qF|apply qG|apply qH);try simp (maxSteps:=1000000)(disch:=(first|omega|(simp only [qI,qJ,qK]<;>omega)|exact qL _)) only [go_sem,↓reduceIte,n0,reduceCtorEq,n1,n2,n3,n4,n5,i0,i1,i2,i3,i4,i5,i6,i7,hI2,hN2])
          exact ⟨_,hr1_2,hr2_0,hr2_5,hr2_6,hr2_71,hr2_70,hr2_8,hr2_10,ha10⟩
      · rintro ρ w37 ⟨r37,hr1_13,hr13_0,hr13_5,hr13_6,hr13_71,hr13_70,hr13_8,hr13_10,ha37⟩
        have hB37 : B ≤ w37.heap.size := Nat.le_trans hB ha37.upd.size
        have hv_37 := ha37.upd.blk_some hv hdv
        have hx1_37 := ha37.upd.blk_some hx1 hnx1
        repeat ((first | refine qA rfl ?_|apply qB|refine qC rfl ?_|apply qD|apply qE|apply qF|apply qG|apply qH);try simp (maxSteps:=1000000)(disch:=(first|omega|(simp only [qI,qJ,qK]<;>omega)|exact qL _)) only [go_sem,↓reduceIte,n0,reduceCtorEq,n1,n2,n3,n4,n5,i0,i1,i2,i3,i4,i5,i6,i7,hv_37,hx1_37,hfp_2,Int.toNat_natCast,Nat.mul_one,hq1_0,hq1_1,hq1_2,hq1_3,hq1_4,hq1_5,hq1_6,hq1_7,hq1_8,hq1_9,hq1_10,hq1_11,hq1_12,hq1_13,hq1_14,hq1_15,hq1_16,hq1_17,hq1_18,hq1_19,hq1_20,hq1_21,fze1_2_0,fze1_2_1,fze1_2_2,fze1_2_3,fze1_2_4,fze1_2_5,fze1_2_6,fze1_2_7,fze1_2_8,fze1_2_9,fze1_2_10,fze1_2_11,fze1_2_12,fze1_2_13,fze1_2_14,fze1_2_15,hxu1_2,hr1_13,hr13_0,hr13_5,hr13_6,hr13_71,hr13_70,hr13_8,hr13_10])
        refine (AppendInt32_fn _ _ _ ha37.own hB37 _ (by simp only [List.length_append,List.length_nil];omega)).mono ?_
        rintro r38 w38 hc38
        rw [wrap32,← hXXe1_5] at hc38
        have ha38 := ha37.trans hc38
        have hB38 : B ≤ w38.heap.size := Nat.le_trans hB ha38.upd.size
        have hv_38 := ha38.upd.blk_some hv hdv
        have hx1_38 := ha38.upd.blk_some hx1 hnx1
        repeat ((first | refine qA rfl ?_|apply qB|refine qC rfl ?_|apply qD|apply qE|apply qF|apply qG|apply qH);try simp (maxSteps:=1000000)(disch:=(first|omega|(simp only [qI,qJ,qK]<;>omega)|exact qL _)) only [go_sem,↓reduceIte,n0,reduceCtorEq,n1,n2,n3,n4,n5,i0,i1,i2,i3,i4,i5,i6,i7,hv_38,hx1_38,hfp_2,Int.toNat_natCast,Nat.mul_one,hq1_0,hq1_1,hq1_2,hq1_3,hq1_4,hq1_5,hq1_6,hq1_7,hq1_8,hq1_9,hq1_10,hq1_11,hq1_12,hq1_13,hq1_14,hq1_15,hq1_16,hq1_17,hq1_18,hq1_19,hq1_20,hq1_21,fze1_2_0,fze1_2_1,fze1_2_2,fze1_2_3,fze1_2_4,fze1_2_5,fze1_2_6,fze1_2_7,fze1_2_8,fze1_2_9,fze1_2_10,fze1_2_11,fze1_2_12,fze1_2_13,fze1_2_14,fze1_2_15,hxu1_2,hr1_13,hr13_0,hr13_5,hr13_6,hr13_71,hr13_70,hr13_8,hr13_10])
        have hTk38 : TagsM (OkS okM w.heap.size) w38 (.map qme1) y1.u := (hTe1.weaken fun b h1 h2 => ⟨h2,h1⟩).keep (ha38.upd.keeps fun b hb hk => hd b hb hk.1)
        refine (TagsLen_fn (ok := OkS okM w.heap.size) w38 hx1_38 (to := o1 + (j1 * 22 + 21)) hq1_21 hTk38).mono ?_
        rintro _ w38' ⟨rfl,rfl⟩
        have hul38 : y1.u.length ≤ 32767 := hfue1.1
        have ew38 : IntKind.u32.wrap (y1.u.length : Int) = y1.u.length := u32_wrap (by omega)
        have ez38 : IntKind.u32.wrap (0 + (y1.u.length : Int)) = y1.u.length := by rw [Int.zero_add,u32_wrap (by omega)]
        simp (maxSteps:=1000000)(disch:=(first|omega|(simp only [qI,qJ,qK]<;>omega)|exact qL _)) only [go_sem,↓reduceIte,n0,reduceCtorEq,n1,n2,n3,n4,n5,i0,i1,i2,i3,i4,i5,i6,i7,hv_38,hx1_38,hfp_2,Int.toNat_natCast,Nat.mul_one,hq1_0,hq1_1,hq1_2,hq1_3,hq1_4,hq1_5,hq1_6,hq1_7,hq1_8,hq1_9,hq1_10,hq1_11,hq1_12,hq1_13,hq1_14,hq1_15,hq1_16,hq1_17,hq1_18,hq1_19,hq1_20,hq1_21,fze1_2_0,fze1_2_1,fze1_2_2,fze1_2_3,fze1_2_4,fze1_2_5,fze1_2_6,fze1_2_7,fze1_2_8,fze1_2_9,fze1_2_10,fze1_2_11,fze1_2_12,fze1_2_13,fze1_2_14,fze1_2_15,hxu1_2,hr1_13,hr13_0,hr13_5,hr13_6,hr13_71,hr13_70,hr13_8,hr13_10,ew38,ez38]
        refine (AppendUvarint_fn _ _ _ ha38.own hB38 y1.u.length (by omega) (by simp only [List.length_append,List.length_nil];omega)).mono ?_
        rintro r39 w39 hc39
        rw [← hXUe1] at hc39
        have ha39 := ha38.trans hc39
        have hB39 : B ≤ w39.heap.size := Nat.le_trans hB ha39.upd.size
        have hv_39 := ha39.upd.blk_some hv hdv
        have hx1_39 := ha39.upd.blk_some hx1 hnx1
        repeat ((first | refine qA rfl ?_|apply qB|refine qC rfl ?_|apply qD|apply qE|apply qF|apply qG|apply qH);try simp (maxSteps:=1000000)(disch:=(first|omega|(simp only [qI,qJ,qK]<;>omega)|exact qL _)) only [go_sem,↓reduceIte,n0,reduceCtorEq,n1,n2,n3,n4,n5,i0,i1,i2,i3,i4,i5,i6,i7,hv_39,hx1_39,hfp_2,Int.toNat_natCast,Nat.mul_one,hq1_0,hq1_1,hq1_2,hq1_3,hq1_4,hq1_5,hq1_6,hq1_7,hq1_8,hq1_9,hq1_10,hq1_11,hq1_12,hq1_13,hq1_14,hq1_15,hq1_16,hq1_17,hq1_18,hq1_19,hq1_20,hq1_21,fze1_2_0,fze1_2_1,fze1_2_2,fze1_2_3,fze1_2_4,fze1_2_5,fze1_2_6,fze1_2_7,fze1_2_8,fze1_2_9,fze1_2_10,fze1_2_11,fze1_2_12,fze1_2_13,fze1_2_14,fze1_2_15,hxu1_2,hr1_13,hr13_0,hr13_5,hr13_6,hr13_71,hr13_70,hr13_8,hr13_10])
        have hTk39 : TagsM (OkS okM w.heap.size) w39 (.map qme1) y1.u := (hTe1.weaken fun b h1 h2 => ⟨h2,h1⟩).keep (ha39.upd.keeps fun b hb hk => hd b hb hk.1)
        refine (AppendEach_fn (ok := OkS okM w.heap.size) _ _ _ ha39.own hB39 hx1_39 (to := o1 + (j1 * 22 + 21)) hq1_21 hTk39 (rising_keys hfue1) hfue1.1 (tags_small hfue1 hTk39) (hdK ha39) (ownK ha39 (blk_lt hx1) hnx1) (by simp only [List.length_append,List.length_nil];omega)).mono ?_
        rintro r40 w40 hc40
        rw [← hXTe1] at hc40
        have ha40 := ha39.trans hc40
        have hB40 : B ≤ w40.heap.size := Nat.le_trans hB ha40.upd.size
        have hv_40 := ha40.upd.blk_some hv hdv
        have hx1_40 := ha40.upd.blk_some hx1 hnx1
        repeat ((first | refine qA rfl ?_|apply qB|refine qC rfl ?_|apply qD|apply qE|apply qF|apply qG|apply qH);try simp (maxSteps:=1000000)(disch:=(first|omega|(simp only [qI,qJ,qK]<;>omega)|exact qL _)) only [go_sem,↓reduceIte,n0,reduceCtorEq,n1,n2,n3,n4,n5,i0,i1,i2,i3,i4,i5,i6,i7,hr1_13,hr13_0,hr13_5,hr13_6,hr13_71,hr13_70,hr13_8,hr13_10])
        refine ⟨⟨j1 + 1,_,by omega,rfl,rfl,ha40.eqs ?_⟩,?_⟩
        · rw [hcat1,List.flatMap_append,List.flatMap_cons,List.flatMap_nil,List.append_nil,← hTT1,hPe1];simp only [List.append_assoc,List.append_nil,List.nil_append]
        · simp only [RowKit.intOf];omega
    · have hjl1 : j1 = (t.at 1).l.length := by omega
      subst hjl1
      rw [List.take_length,← hXE_1] at ha3
      repeat ((first | refine qA rfl ?_|apply qB|refine qC rfl ?_|apply qD|apply qE|apply qF|apply qG|apply qH);try simp (maxSteps:=1000000)(disch:=(first|omega|(simp only [qI,qJ,qK]<;>omega)|exact qL _)) only [go_sem,↓reduceIte,n0,reduceCtorEq,n1,n2,n3,n4,n5,i0,i1,i2,i3,i4,i5,i6,i7,hI1,hN1])
      exact ⟨_,hr1_1,hr1_0,hr1_5,hr1_6,ha3⟩
  · rintro ρ w41 ⟨r41,hr1_14,hr14_0,hr14_5,hr14_6,ha41⟩
    have hB41 : B ≤ w41.heap.size := Nat.le_trans hB ha41.upd.size
    have hv_41 := ha41.upd.blk_some hv hdv
    have hnu : (t.at 2).null = nullS fQ_2 ver (t.at 2) := g_2.isnull (by decide)
    by_cases hno : (t.at 2).null = true
    · obtain ⟨XB,hXB⟩ : ∃ X : List UInt8,X = fixedS (-1) 1 := ⟨_,rfl⟩
      have hXBl : XB.length = 1 := by rw [hXB];rfl
      have hXo : X_2 = XB := by rw [hXX_2,← hnu,hno,if_pos rfl,hXB]
      have hpo : p_2 = .pointer none := by have h := hp_2;unfold PtrPart at h;rw [if_pos hno] at h;exact h
      subst hpo
      have hXl := congrArg List.length hXo
      repeat ((first | refine qA rfl ?_|apply qB|refine qC rfl ?_|apply qD|apply qE|apply qF|apply qG|apply qH);try simp (maxSteps:=1000000)(disch:=(first|omega|(simp only [qI,qJ,qK]<;>omega)|exact qL _)) only [go_sem,↓reduceIte,n0,reduceCtorEq,n1,n2,n3,n4,n5,i0,i1,i2,i3,i4,i5,i6,i7,hv_41,hfp_2,hr1_14,hr14_0,hr14_5,hr14_6])
      have hb42 : XB = [255] := by rw [hXB];rfl
      have hql42 : (s ++ ([] ++ X_0 ++ XL_1 ++ XE_1)).length ≤ 2 ^ 45 := (by simp only [List.length_append,List.length_nil];omega)
      obtain ⟨a42,c42,rfl,hc42⟩ := ha41.own.len
      have hby42 : Value.int .u8 255 = byteV 255 := rfl
      repeat (first|simp (maxSteps:=1000000)(disch:=(first|omega|(simp only [qI,qJ,qK]<;>omega)|exact qL _)) only [go_sem,↓reduceIte,n0,reduceCtorEq,n1,n2,n3,n4,n5,i0,i1,i2,i3,i4,i5,i6,i7,hv_41,hfp_2,hr1_14,hr14_0,hr14_5,hr14_6,hby42]|refine qA rfl ?_|apply qB|refine qC rfl ?_|apply qD|apply qE|apply qF|apply qG|apply qH)
      have hq42 := ha41.own.alloc (.cells #[byteV 255] 5)
      refine wp_append ap_22_22 (m := 1) (news := [byteV 255]) (v := .slice a42 _ c42) ?_ rfl hq42 (flat_bytes _) (Src.blk (fr := (0,0)) (T := 5) (blk_alloc_new rfl) rfl rfl) ?_ ?_ ?_
      · simp (maxSteps:=1000000)(disch:=(first|omega|(simp only [qI,qJ,qK]<;>omega)|exact qL _)) only [go_sem,↓reduceIte,n0,reduceCtorEq,n1,n2,n3,n4,n5,i0,i1,i2,i3,i4,i5,i6,i7,hv_41,hfp_2,hr1_14,hr14_0,hr14_5,hr14_6]
      · simp only [World.size_alloc];omega
      · omega
      intro r42 w42 ho42 hu42 hfr42
      have hc'42 := AppR.after (Upd.alloc (Upd.refl _ _) _) (AppR.of (t := [255]) ho42 rfl hu42 hfr42)
      rw [← hb42] at hc'42
      have ha42 := ha41.trans hc'42
      have hB42 : B ≤ w42.heap.size := Nat.le_trans hB ha42.upd.size
      have hv_42 := ha42.upd.blk_some hv hdv
      repeat (first|simp (maxSteps:=1000000)(disch:=(first|omega|(simp only [qI,qJ,qK]<;>omega)|exact qL _)) only [go_sem,↓reduceIte,n0,reduceCtorEq,n1,n2,n3,n4,n5,i0,i1,i2,i3,i4,i5,i6,i7,hv_42,hfp_2,hr1_14,hr14_0,hr14_5,hr14_6]|refine qA rfl ?_|apply qB|refine qC rfl ?_|apply qD|apply qE|apply qF|apply qG|apply qH)
      have hTk42 : TagsM (OkS okM w.heap.size) w42 (.map qm) t.u := (hT.weaken fun b h1 h2 => ⟨h2,h1⟩).keep (ha42.upd.keeps fun b hb hk => hd b hb hk.1)
      refine (TagsLen_fn (ok := OkS okM w.heap.size) w42 hv_42 (to := 4) (show (#[.int .i16 ver,.int .i32 (IntKind.i32.wrap (t.at 0).n),.slice ab_1 (t.at 1).l.length ac_1,.pointer none,.map qm] : Array Value)[4]? = some (.map qm) from rfl) hTk42).mono ?_
      rintro _ w42' ⟨rfl,rfl⟩
      have hul42 : t.u.length ≤ 32767 := hfu.1
      have ew42 : IntKind.u32.wrap (t.u.length : Int) = t.u.length := u32_wrap (by omega)
      have ez42 : IntKind.u32.wrap (0 + (t.u.length : Int)) = t.u.length := by rw [Int.zero_add,u32_wrap (by omega)]
      simp (maxSteps:=1000000)(disch:=(first|omega|(simp only [qI,qJ,qK]<;>omega)|exact qL _)) only [go_sem,↓reduceIte,n0,reduceCtorEq,n1,n2,n3,n4,n5,i0,i1,i2,i3,i4,i5,i6,i7,hv_42,hfp_2,hr1_14,hr14_0,hr14_5,hr14_6,ew42,ez42]
      refine (AppendUvarint_fn _ _ _ ha42.own hB42 t.u.length (by omega) (by simp only [List.length_append,List.length_nil];omega)).mono ?_
      rintro r43 w43 hc43
      rw [← hXU] at hc43
      have ha43 := ha42.trans hc43
      have hB43 : B ≤ w43.heap.size := Nat.le_trans hB ha43.upd.size
      have hv_43 := ha43.upd.blk_some hv hdv
      repeat ((first | refine qA rfl ?_|apply qB|refine qC rfl ?_|apply qD|apply qE|apply qF|apply qG|apply qH);try simp (maxSteps:=1000000)(disch:=(first|omega|(simp only [qI,qJ,qK]<;>omega)|exact qL _)) only [go_sem,↓reduceIte,n0,reduceCtorEq,n1,n2,n3,n4,n5,i0,i1,i2,i3,i4,i5,i6,i7,hv_43,hfp_2,hr1_14,hr14_0,hr14_5,hr14_6])
      have hTk43 : TagsM (OkS okM w.heap.size) w43 (.map qm) t.u := (hT.weaken fun b h1 h2 => ⟨h2,h1⟩).keep (ha43.upd.keeps fun b hb hk => hd b hb hk.1)
      refine (AppendEach_fn (ok := OkS okM w.heap.size) _ _ _ ha43.own hB43 hv_43 (to := 4) (show (#[.int .i16 ver,.int .i32 (IntKind.i32.wrap (t.at 0).n),.slice ab_1 (t.at 1).l.length ac_1,.pointer none,.map qm] : Array Value)[4]? = some (.map qm) from rfl) hTk43 (rising_keys hfu) hfu.1 (tags_small hfu hTk43) (hdK ha43) (ownK ha43 (blk_lt hv) hdv) (by simp only [List.length_append,List.length_nil];omega)).mono ?_
      rintro r44 w44 hc44
      rw [← hXT] at hc44
      have ha44 := ha43.trans hc44
      have hB44 : B ≤ w44.heap.size := Nat.le_trans hB ha44.upd.size
      have hv_44 := ha44.upd.blk_some hv hdv
      repeat ((first | refine qA rfl ?_|apply qB|refine qC rfl ?_|apply qD|apply qE|apply qF|apply qG|apply qH);try simp (maxSteps:=1000000)(disch:=(first|omega|(simp only [qI,qJ,qK]<;>omega)|exact qL _)) only [go_sem,↓reduceIte,n0,reduceCtorEq,n1,n2,n3,n4,n5,i0,i1,i2,i3,i4,i5,i6,i7,hv_44,hfp_2,hr1_14,hr14_0,hr14_5,hr14_6])
      refine ha44.eqs ?_
      rw [hP,hXo];simp only [List.append_assoc,List.append_nil,List.nil_append]
    · have hnf : (t.at 2).null = false := by cases h : (t.at 2).null with | true => exact absurd h hno | false => rfl
      obtain ⟨pb,pT,pcs,hpe,hokp,hpb,hRp⟩ : ∃ b T cs,p_2 = .pointer (some ⟨b,0,none⟩) ∧ okM b ∧ blk w b = some (cs.toArray,T,(0,0)) ∧ RepS true (d + 2) fs_X1 okM w (t.at 2) cs := by have h := hp_2;unfold PtrPart at h;rw [if_neg hno] at h;exact h
      subst hpe
      have hfp : FitW ver (d + 2) fs_X1 (t.at 2) := (g_2.one (by decide)).2 rfl
      obtain ⟨⟨go_0,go_1,-⟩,hfuo⟩ := hfp
      replace go_0 : hasS fX1_0 ver = true → FitWF (FitW ver (d + 1)) ver fX1_0 ((t.at 2).at 0) := go_0
      have hho_0 : hasS fX1_0 ver = true := hasS_t (by show (0 : Int) ≤ ver;omega) (by show (-1 : Int) < 0 ∨ ver ≤ (-1 : Int);omega)
      replace go_0 := go_0 hho_0
      replace go_1 : hasS fX1_1 ver = true → FitWF (FitW ver (d + 1)) ver fX1_1 ((t.at 2).at 1) := go_1
      have hho_1 : hasS fX1_1 ver = true := hasS_t (by show (0 : Int) ≤ ver;omega) (by show (-1 : Int) < 0 ∨ ver ≤ (-1 : Int);omega)
      replace go_1 := go_1 hho_1
      obtain ⟨cso,qo,hcso,hLo,hTo⟩ := hRp.inv
      obtain ⟨co_0,eo_0,rfl,ho_0,co_1,eo_1,rfl,ho_1,rfl⟩ := hLo
      replace ho_0 : RepF (RepS true (d + 1)) (szS true (d + 1)) fX1_0 okM w ((t.at 2).at 0) co_0 := ho_0
      replace ho_1 : RepF (RepS true (d + 1)) (szS true (d + 1)) fX1_1 okM w ((t.at 2).at 1) co_1 := ho_1
      obtain rfl := (RepF_text rfl (by decide)).1 ho_0
      obtain rfl := (RepF_num (by decide)).1 ho_1
      obtain ⟨qmo,rfl⟩ := hTo.shape
      subst hcso
      replace hpb : blk w pb = some (#[strV ((t.at 2).at 0).s,.int .i32 (IntKind.i32.wrap ((t.at 2).at 1).n),.map qmo],pT,(0,0)) := hpb
      have hdp : ¬ ownB v pb := hd pb (blk_lt hpb) hokp
      obtain ⟨Xo_0,hXXo_0⟩ : ∃ X,X = uvarS (((t.at 2).at 0).s.length + 1) ++ ((t.at 2).at 0).s := ⟨_,rfl⟩
      obtain ⟨Xo_1,hXXo_1⟩ : ∃ X,X = fixedS ((t.at 2).at 1).n 4 := ⟨_,rfl⟩
      obtain ⟨XUo,hXUo⟩ : ∃ X,X = uvarS (t.at 2).u.length := ⟨_,rfl⟩
      obtain ⟨XTo,hXTo⟩ : ∃ X,X = (t.at 2).u.flatMap oneTag := ⟨_,rfl⟩
      have hPo : partS (d + 2) fs_X1 ver true (t.at 2) = (Xo_0 ++ (Xo_1 ++ [])) ++ (XUo ++ XTo) := by rw [hXUo,hXTo];exact partS_yes rfl hfuo (plainL_has (by decide) hho_0 ((fieldS_text_t go_0 rfl (by decide)).trans hXXo_0.symm) (plainL_has (by decide) hho_1 ((fieldS_num 3 rfl (by decide)).trans hXXo_1.symm) rfl))
      obtain ⟨XB,hXB⟩ : ∃ X : List UInt8,X = fixedS 1 1 := ⟨_,rfl⟩
      have hXBl : XB.length = 1 := by rw [hXB];rfl
      have hXo : X_2 = XB ++ partS (d + 2) fs_X1 ver true (t.at 2) := by rw [hXX_2,← hnu,hnf,if_neg (by decide),hXB]
      rw [hPo] at hXo
      have hXl := congrArg List.length hXo
      simp only [List.length_append,List.length_nil] at hXl
      have hpb_41 := ha41.upd.blk_some hpb hdp
      repeat ((first | refine qA rfl ?_|apply qB|refine qC rfl ?_|apply qD|apply qE|apply qF|apply qG|apply qH);try simp (maxSteps:=1000000)(disch:=(first|omega|(simp only [qI,qJ,qK]<;>omega)|exact qL _)) only [go_sem,↓reduceIte,n0,reduceCtorEq,n1,n2,n3,n4,n5,i0,i1,i2,i3,i4,i5,i6,i7,hv_41,hpb_41,hfp_2,hr1_14,hr14_0,hr14_5,hr14_6])
      have hb42 : XB = [1] := by rw [hXB];rfl
      have hql42 : (s ++ ([] ++ X_0 ++ XL_1 ++ XE_1)).length ≤ 2 ^ 45 := (by simp only [List.length_append,List.length_nil];omega)
      obtain ⟨a42,c42,rfl,hc42⟩ := ha41.own.len
      have hby42 : Value.int .u8 1 = byteV 1 := rfl
      repeat (first|simp (maxSteps:=1000000)(disch:=(first|omega|(simp only [qI,qJ,qK]<;>omega)|exact qL _)) only [go_sem,↓reduceIte,n0,reduceCtorEq,n1,n2,n3,n4,n5,i0,i1,i2,i3,i4,i5,i6,i7,hv_41,hpb_41,hfp_2,hr1_14,hr14_0,hr14_5,hr14_6,hby42]|refine qA rfl ?_|apply qB|refine qC rfl ?_|apply qD|apply qE|apply qF|apply qG|apply qH)
      have hq42 := ha41.own.alloc (.cells #[byteV 1] 5)
      refine wp_append ap_22_22 (m := 1) (news := [byteV 1]) (v := .slice a42 _ c42) ?_ rfl hq42 (flat_bytes _) (Src.blk (fr := (0,0)) (T := 5) (blk_alloc_new rfl) rfl rfl) ?_ ?_ ?_
      · simp (maxSteps:=1000000)(disch:=(first|omega|(simp only [qI,qJ,qK]<;>omega)|exact qL _)) only [go_sem,↓reduceIte,n0,reduceCtorEq,n1,n2,n3,n4,n5,i0,i1,i2,i3,i4,i5,i6,i7,hv_41,hpb_41,hfp_2,hr1_14,hr14_0,hr14_5,hr14_6]
      · simp only [World.size_alloc];omega
      · omega
      intro r42 w42 ho42 hu42 hfr42
      have hc'42 := AppR.after (Upd.alloc (Upd.refl _ _) _) (AppR.of (t := [1]) ho42 rfl hu42 hfr42)
      rw [← hb42] at hc'42
      have ha42 := ha41.trans hc'42
      have hB42 : B ≤ w42.heap.size := Nat.le_trans hB ha42.upd.size
      have hv_42 := ha42.upd.blk_some hv hdv
      have hpb_42 := ha42.upd.blk_some hpb hdp
      repeat (first|simp (maxSteps:=1000000)(disch:=(first|omega|(simp only [qI,qJ,qK]<;>omega)|exact qL _)) only [go_sem,↓reduceIte,n0,reduceCtorEq,n1,n2,n3,n4,n5,i0,i1,i2,i3,i4,i5,i6,i7,hv_42,hpb_42,hfp_2,hr1_14,hr14_0,hr14_5,hr14_6]|refine qA rfl ?_|apply qB|refine qC rfl ?_|apply qD|apply qE|apply qF|apply qG|apply qH)
      refine (AppendCompactString_fn _ _ _ ha42.own hB42 ((t.at 2).at 0).s (go_0.text (.inl rfl)) (by simp only [List.length_append,List.length_nil];omega)).mono ?_
      rintro r43 w43 hc43
      rw [← hXXo_0] at hc43
      have ha43 := ha42.trans hc43
      have hB43 : B ≤ w43.heap.size := Nat.le_trans hB ha43.upd.size
      have hv_43 := ha43.upd.blk_some hv hdv
      have hpb_43 := ha43.upd.blk_some hpb hdp
      repeat ((first | refine qA rfl ?_|apply qB|refine qC rfl ?_|apply qD|apply qE|apply qF|apply qG|apply qH);try simp (maxSteps:=1000000)(disch:=(first|omega|(simp only [qI,qJ,qK]<;>omega)|exact qL _)) only [go_sem,↓reduceIte,n0,reduceCtorEq,n1,n2,n3,n4,n5,i0,i1,i2,i3,i4,i5,i6,i7,hv_43,hpb_43,hfp_2,hr1_14,hr14_0,hr14_5,hr14_6])
      refine (AppendInt32_fn _ _ _ ha43.own hB43 _ (by simp only [List.length_append,List.length_nil];omega)).mono ?_
      rintro r44 w44 hc44
      rw [wrap32,← hXXo_1] at hc44
      have ha44 := ha43.trans hc44
      have hB44 : B ≤ w44.heap.size := Nat.le_trans hB ha44.upd.size
      have hv_44 := ha44.upd.blk_some hv hdv
      have hpb_44 := ha44.upd.blk_some hpb hdp
      repeat ((first | refine qA rfl ?_|apply qB|refine qC rfl ?_|apply qD|apply qE|apply qF|apply qG|apply qH);try simp (maxSteps:=1000000)(disch:=(first|omega|(simp only [qI,qJ,qK]<;>omega)|exact qL _)) only [go_sem,↓reduceIte,n0,reduceCtorEq,n1,n2,n3,n4,n5,i0,i1,i2,i3,i4,i5,i6,i7,hv_44,hpb_44,hfp_2,hr1_14,hr14_0,hr14_5,hr14_6])
      have hTk44 : TagsM (OkS okM w.heap.size) w44 (.map qmo) (t.at 2).u := (hTo.weaken fun b h1 h2 => ⟨h2,h1⟩).keep (ha44.upd.keeps fun b hb hk => hd b hb hk.1)
      refine (TagsLen_fn (ok := OkS okM w.heap.size) w44 hpb_44 (to := 2) (show (#[strV ((t.at 2).at 0).s,.int .i32 (IntKind.i32.wrap ((t.at 2).at 1).n),.map qmo] : Array Value)[2]? = some (.map qmo) from rfl) hTk44).mono ?_
      rintro _ w44' ⟨rfl,rfl⟩
      have hul44 : (t.at 2).u.length ≤ 32767 := hfuo.1
      have ew44 : IntKind.u32.wrap ((t.at 2).u.length : Int) = (t.at 2).u.length := u32_wrap (by omega)
      have ez44 : IntKind.u32.wrap (0 + ((t.at 2).u.length : Int)) = (t.at 2).u.length := by rw [Int.zero_add,u32_wrap (by omega)]
      simp (maxSteps:=1000000)(disch:=(first|omega|(simp only [qI,qJ,qK]<;>omega)|exact qL _)) only [go_sem,↓reduceIte,n0,reduceCtorEq,n1,n2,n3,n4,n5,i0,i1,i2,i3,i4,i5,i6,i7,hv_44,hpb_44,hfp_2,hr1_14,hr14_0,hr14_5,hr14_6,ew44,ez44]
      refine (AppendUvarint_fn _ _ _ ha44.own hB44 (t.at 2).u.length (by omega) (by simp only [List.length_append,List.length_nil];omega)).mono ?_
      rintro r45 w45 hc45
      rw [← hXUo] at hc45
      have ha45 := ha44.trans hc45
      have hB45 : B ≤ w45.heap.size := Nat.le_trans hB ha45.upd.size
      have hv_45 := ha45.upd.blk_some hv hdv
      have hpb_45 := ha45.upd.blk_some hpb hdp
      repeat ((first | refine qA rfl ?_|apply qB|refine qC rfl ?_|apply qD|apply qE|apply qF|apply qG|apply qH);try simp (maxSteps:=1000000)(disch:=(first|omega|(simp only [qI,qJ,qK]<;>omega)|exact qL _)) only [go_sem,↓reduceIte,n0,reduceCtorEq,n1,n2,n3,n4,n5,i0,i1,i2,i3,i4,i5,i6,i7,hv_45,hpb_45,hfp_2,hr1_14,hr14_0,hr14_5,hr14_6])
      have hTk45 : TagsM (OkS okM w.heap.size) w45 (.map qmo) (t.at 2).u := (hTo.weaken fun b h1 h2 => ⟨h2,h1⟩).keep (ha45.upd.keeps fun b hb hk => hd b hb hk.1)
      refine (AppendEach_fn (ok := OkS okM w.heap.size) _ _ _ ha45.own hB45 hpb_45 (to := 2) (show (#[strV ((t.at 2).at 0).s,.int .i32 (IntKind.i32.wrap ((t.at 2).at 1).n),.map qmo] : Array Value)[2]? = some (.map qmo) from rfl) hTk45 (rising_keys hfuo) hfuo.1 (tags_small hfuo hTk45) (hdK ha45) (ownK ha45 (blk_lt hpb) hdp) (by simp only [List.length_append,List.length_nil];omega)).mono ?_
      rintro r46 w46 hc46
      rw [← hXTo] at hc46
      have ha46 := ha45.trans hc46
      have hB46 : B ≤ w46.heap.size := Nat.le_trans hB ha46.upd.size
      have hv_46 := ha46.upd.blk_some hv hdv
      have hpb_46 := ha46.upd.blk_some hpb hdp
      repeat ((first | refine qA rfl ?_|apply qB|refine qC rfl ?_|apply qD|apply qE|apply qF|apply qG|apply qH);try simp (maxSteps:=1000000)(disch:=(first|omega|(simp only [qI,qJ,qK]<;>omega)|exact qL _)) only [go_sem,↓reduceIte,n0,reduceCtorEq,n1,n2,n3,n4,n5,i0,i1,i2,i3,i4,i5,i6,i7,hpb_46,hv_46,hfp_2,hr1_14,hr14_0,hr14_5,hr14_6])
      have hTk46 : TagsM (OkS okM w.heap.size) w46 (.map qm) t.u := (hT.weaken fun b h1 h2 => ⟨h2,h1⟩).keep (ha46.upd.keeps fun b hb hk => hd b hb hk.1)
      refine (TagsLen_fn (ok := OkS okM w.heap.size) w46 hv_46 (to := 4) (show (#[.int .i16 ver,.int .i32 (IntKind.i32.wrap (t.at 0).n),.slice ab_1 (t.at 1).l.length ac_1,.pointer (some ⟨pb,0,none⟩),.map qm] : Array Value)[4]? = some (.map qm) from rfl) hTk46).mono ?_
      rintro _ w46' ⟨rfl,rfl⟩
      have hul46 : t.u.length ≤ 32767 := hfu.1
      have ew46 : IntKind.u32.wrap (t.u.length : Int) = t.u.length := u32_wrap (by omega)
      have ez46 : IntKind.u32.wrap (0 + (t.u.length : Int)) = t.u.length := by rw [Int.zero_add,u32_wrap (by omega)]
      simp (maxSteps:=1000000)(disch:=(first|omega|(simp only [qI,qJ,qK]<;>omega)|exact qL _)) only [go_sem,↓reduceIte,n0,reduceCtorEq,n1,n2,n3,n4,n5,i0,i1,i2,i3,i4,i5,i6,i7,hpb_46,hv_46,hfp_2,hr1_14,hr14_0,hr14_5,hr14_6,ew46,ez46]
      refine (AppendUvarint_fn _ _ _ ha46.own hB46 t.u.length (by omega) (by simp only [List.length_append,List.length_nil];omega)).mono ?_
      rintro r47 w47 hc47
      rw [← hXU] at hc47
      have ha47 := ha46.trans hc47
      have hB47 : B ≤ w47.heap.size := Nat.le_trans hB ha47.upd.size
      have hpb_47 := ha47.upd.blk_some hpb hdp
      have hv_47 := ha47.upd.blk_some hv hdv
      repeat ((first | refine qA rfl ?_|apply qB|refine qC rfl ?_|apply qD|apply qE|apply qF|apply qG|apply qH);try simp (maxSteps:=1000000)(disch:=(first|omega|(simp only [qI,qJ,qK]<;>omega)|exact qL _)) only [go_sem,↓reduceIte,n0,reduceCtorEq,n1,n2,n3,n4,n5,i0,i1,i2,i3,i4,i5,i6,i7,hpb_47,hv_47,hfp_2,hr1_14,hr14_0,hr14_5,hr14_6])
      have hTk47 : TagsM (OkS okM w.heap.size) w47 (.map qm) t.u := (hT.weaken fun b h1 h2 => ⟨h2,h1⟩).keep (ha47.upd.keeps fun b hb hk => hd b hb hk.1)
      refine (AppendEach_fn (ok := OkS okM w.heap.size) _ _ _ ha47.own hB47 hv_47 (to := 4) (show (#[.int .i16 ver,.int .i32 (IntKind.i32.wrap (t.at 0).n),.slice ab_1 (t.at 1).l.length ac_1,.pointer (some ⟨pb,0,none⟩),.map qm] : Array Value)[4]? = some (.map qm) from rfl) hTk47 (rising_keys hfu) hfu.1 (tags_small hfu hTk47) (hdK ha47) (ownK ha47 (blk_lt hv) hdv) (by simp only [List.length_append,List.length_nil];omega)).mono ?_
      rintro r48 w48 hc48
      rw [← hXT] at hc48
      have ha48 := ha47.trans hc48
      have hB48 : B ≤ w48.heap.size := Nat.le_trans hB ha48.upd.size
      have hpb_48 := ha48.upd.blk_some hpb hdp
      have hv_48 := ha48.upd.blk_some hv hdv
      repeat ((first | refine qA rfl ?_|apply qB|refine qC rfl ?_|apply qD|apply qE|apply qF|apply qG|apply qH);try simp (maxSteps:=1000000)(disch:=(first|omega|(simp only [qI,qJ,qK]<;>omega)|exact qL _)) only [go_sem,↓reduceIte,n0,reduceCtorEq,n1,n2,n3,n4,n5,i0,i1,i2,i3,i4,i5,i6,i7,hpb_48,hv_48,hfp_2,hr1_14,hr14_0,hr14_5,hr14_6])
      refine ha48.eqs ?_
      rw [hP,hXo];simp only [List.append_assoc,List.append_nil,List.nil_append]
end Ms

