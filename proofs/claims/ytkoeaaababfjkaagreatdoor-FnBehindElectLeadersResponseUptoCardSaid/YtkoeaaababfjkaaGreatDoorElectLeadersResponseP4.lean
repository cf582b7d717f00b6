/- A part of the proof: see the last text. -/
import Derived.Test.YtkoeaaababfjkaaGreatDoorC06
import Derived.Test.YtkoeaaababfjkaaGreatDoorC07
import Derived.Test.YtkoeaaababfjkaaGreatDoorC10
import Derived.Test.YtkoeaaababfjkaaGreatDoorElectLeadersResponseP0
import Derived.Test.YtkoeaaababfjkaaGreatDoorElectLeadersResponseP3
set_option linter.unusedSimpArgs false
set_option linter.unusedVariables false
namespace Ms
open Go.World renaming size_alloc → qI
open Ms renaming size_wr → qJ,size_drew → qK,not_noB → qL
open W renaming seqR → qA,seq → qB,regR → qC,condK → qD,block → qE,skip → qF,ret → qG,exit → qH
open Nat renaming reduceEqDiff → n0,reduceAdd → n1,reduceMul → n2,reduceSub → n3,reduceLT → n4,reduceLeDiff → n5
open Int renaming reduceEq → i0,reduceLT → i1,reduceLE → i2,reduceNeg → i3,reduceAdd → i4,reduceSub → i5,reduceMul → i6,reduceToNat → i7
set_option maxRecDepth 8000
open Go Go.Proofs Go.Shelf
attribute [local congr] W_congr WPsq_congr WPp_congr optK_congr addrK_congr intK_congr boolK_congr sliceK_congr tupleK_congr funcK_congr Fn_congr rawK_congr takeK_congr stepK_congr convK_congr aggK_congr

set_option maxHeartbeats 4000000 in
theorem appElectLeadersResponse_0 {d B : Nat} {okM : Blocks} {ver : Int} (hlo : 0 ≤ ver) (hhi : ver ≤ 0) (t : Tree) (cells : List Value) (v : Value) (s : List UInt8) (w : World) {vb : Nat} (ho : OwnBy 5 B w v s) (hB : B ≤ w.heap.size) (hvb : blk w vb = some ((.int .i16 ver :: cells).toArray,113,(0,0)))
    (hR : RepS true (d + 3) fs_ElectLeadersResponse okM w t cells) (hfit : FitW ver (d + 3) fs_ElectLeadersResponse t) (hd : ∀ b,b < w.heap.size → okM b → ¬ ownB v b) (hdv : ¬ ownB v vb) (hlen : s.length + (partS (d + 3) fs_ElectLeadersResponse ver false t).length ≤ 2 ^ 41) :
    Fn Tryz.prog 64 #[.pointer (some ⟨vb,0,none⟩),v] w fun r w' => AppR 5 B w v s (partS (d + 3) fs_ElectLeadersResponse ver false t) r w' := by
  obtain ⟨⟨g_0,g_1,g_2,-⟩,hfu⟩ := hfit
  replace g_0 : hasS fElectLeadersResponse_0 ver = true → FitWF (FitW ver (d + 2)) ver fElectLeadersResponse_0 (t.at 0) := g_0
  have hh_0 : hasS fElectLeadersResponse_0 ver = true := hasS_t (by show (0 : Int) ≤ ver;omega) (by show (-1 : Int) < 0 ∨ ver ≤ (-1 : Int);omega)
  replace g_0 := g_0 hh_0
  replace g_1 : hasS fElectLeadersResponse_1 ver = true → FitWF (FitW ver (d + 2)) ver fElectLeadersResponse_1 (t.at 1) := g_1
  have hh_1 : hasS fElectLeadersResponse_1 ver = false := hasS_f (by show ver < 1 ∨ (0 ≤ (-1 : Int) ∧ (-1 : Int) < ver);omega)
  clear g_1
  replace g_2 : hasS fElectLeadersResponse_2 ver = true → FitWF (FitW ver (d + 2)) ver fElectLeadersResponse_2 (t.at 2) := g_2
  have hh_2 : hasS fElectLeadersResponse_2 ver = true := hasS_t (by show (0 : Int) ≤ ver;omega) (by show (-1 : Int) < 0 ∨ ver ≤ (-1 : Int);omega)
  replace g_2 := g_2 hh_2
  obtain ⟨cs,q,hcs,hL,hT⟩ := hR.inv
  obtain ⟨c_0,e_0,rfl,h_0,c_1,e_1,rfl,h_1,c_2,e_2,rfl,h_2,rfl⟩ := hL
  replace h_0 : RepF (RepS true (d + 2)) (szS true (d + 2)) fElectLeadersResponse_0 okM w (t.at 0) c_0 := h_0
  replace h_1 : RepF (RepS true (d + 2)) (szS true (d + 2)) fElectLeadersResponse_1 okM w (t.at 1) c_1 := h_1
  replace h_2 : RepF (RepS true (d + 2)) (szS true (d + 2)) fElectLeadersResponse_2 okM w (t.at 2) c_2 := h_2
  obtain rfl := (RepF_num (by decide)).1 h_0
  obtain rfl := (RepF_num (by decide)).1 h_1
  obtain ⟨p_2,rfl,hs_2⟩ := RepF_listW g_2 rfl (by decide) h_2
  obtain ⟨ab_2,ac_2,rfl,_⟩ := SlR.shape hs_2
  have hll_2 := (g_2.list rfl).1
  obtain ⟨qm,rfl⟩ := hT.shape
  have hv : blk w vb = some (#[.int .i16 ver,.int .i32 (IntKind.i32.wrap (t.at 0).n),.int .i16 (IntKind.i16.wrap (t.at 1).n),.slice ab_2 (t.at 2).l.length ac_2,.map qm],113,(0,0)) := by rw [hvb,hcs];rfl
  clear hvb hcs
  obtain ⟨X_0,hXX_0⟩ : ∃ X,X = fixedS (t.at 0).n 4 := ⟨_,rfl⟩
  obtain ⟨XL_2,hXL_2⟩ : ∃ X,X = fixedS (t.at 2).l.length 4 := ⟨_,rfl⟩
  obtain ⟨XE_2,hXE_2⟩ : ∃ X,X = (t.at 2).l.flatMap (fun x => partS (d + 2) fs_X1 ver false x) := ⟨_,rfl⟩
  have hP : partS (d + 3) fs_ElectLeadersResponse ver false t = X_0 ++ ((XL_2 ++ XE_2) ++ []) := partS_no (plainL_has (by decide) hh_0 ((fieldS_num 3 rfl (by decide)).trans hXX_0.symm) (plainL_not hh_1 (plainL_has (by decide) hh_2 ((fieldS_list_f (g := (fun x => partS (d + 2) fs_X1 ver false x)) g_2 rfl (by decide) (fun x _ => valueS_part)).trans (by rw [hXL_2,hXE_2])) rfl)))
  rw [hP] at hlen
  simp only [List.length_append,List.length_nil] at hlen
  have hdK : ∀ {r : Value} {w' : World} {add : List UInt8},AppR 5 B w v s add r w' → ∀ b,b < w'.heap.size → OkS okM w.heap.size b → ¬ ownB r b := fun h b _ hk ho => (h.frame b ho).elim (hd b hk.2 hk.1) (fun h => by have := hk.2;omega)
  have ownK : ∀ {r : Value} {w' : World} {add : List UInt8} {b : Nat},AppR 5 B w v s add r w' → b < w.heap.size → ¬ ownB v b → ¬ ownB r b := fun h hb hn ho => (h.frame _ ho).elim hn (fun h => by omega)
  have ha0 : AppR 5 B w v s [] v w := AppR.refl ho
  obtain ⟨w0,hw0⟩ : ∃ w0,w0 = w := ⟨_,rfl⟩
  have hB0 := hB
  have hv_0 := hv
  refine fn_of_W Tryz.func64 rfl Tryz.results64 Tryz.ntmps64 rfl ?_
  repeat ((first | refine qA rfl ?_|refine qB ?_|refine qC rfl ?_|refine qD ?_|refine qE ?_|refine qF ?_|refine qG ?_|refine qH ?_);try simp (maxSteps:=1000000)(disch:=(first|omega|(simp only [qI,qJ,qK]<;>omega)|exact qL _)) only [go_sem,↓reduceIte,n0,reduceCtorEq,n1,n2,n3,n4,n5,i0,i1,i2,i3,i4,i5,i6,i7,hv_0])
  refine (AppendInt32_fn _ _ _ ha0.own hB0 _ (by simp only [List.length_append,List.length_nil];omega)).mono ?_
  rintro r1 w1 hc1
  rw [wrap32,← hXX_0] at hc1
  have ha1 := ha0.trans hc1
  have hB1 : B ≤ w1.heap.size := Nat.le_trans hB ha1.upd.size
  have hv_1 := ha1.upd.blk_some hv hdv
  repeat ((first | refine qA rfl ?_|refine qB ?_|refine qC rfl ?_|refine qD ?_|refine qE ?_|refine qF ?_|refine qG ?_|refine qH ?_);try simp (maxSteps:=1000000)(disch:=(first|omega|(simp only [qI,qJ,qK]<;>omega)|exact qL _)) only [go_sem,↓reduceIte,n0,reduceCtorEq,n1,n2,n3,n4,n5,i0,i1,i2,i3,i4,i5,i6,i7,hv_1])
  refine (AppendArrayLen_fn _ _ _ ha1.own hB1 (t.at 2).l.length hll_2 (by simp only [List.length_append,List.length_nil];omega)).mono ?_
  rintro r2 w2 hc2
  rw [← hXL_2] at hc2
  have ha2 := ha1.trans hc2
  have hB2 : B ≤ w2.heap.size := Nat.le_trans hB ha2.upd.size
  have hv_2 := ha2.upd.blk_some hv hdv
  repeat ((first | refine qA rfl ?_|refine qB ?_|refine qC rfl ?_|refine qD ?_|refine qE ?_|refine qF ?_|refine qG ?_|refine qH ?_);try simp (maxSteps:=1000000)(disch:=(first|omega|(simp only [qI,qJ,qK]<;>omega)|exact qL _)) only [go_sem,↓reduceIte,n0,reduceCtorEq,n1,n2,n3,n4,n5,i0,i1,i2,i3,i4,i5,i6,i7,hv_2])
  have hadd1 := ha2
  refine W.exitJ 0 (fun ρ w' => ∃ r,ρ 1 = r ∧ ρ 0 = .pointer (some ⟨vb,0,none⟩) ∧ ρ 5 = .int .i16 ver ∧ ρ 6 = .bool false ∧ AppR 5 B w v s (([] ++ X_0 ++ XL_2) ++ XE_2) r w')
    (W.loop (fun ρ w' => ∃ (j : Nat) (r : Value),j ≤ (t.at 2).l.length ∧ ρ 58 = .int .i64 j ∧ ρ 57 = .int .i64 (t.at 2).l.length ∧ ρ 9 = .slice ab_2 (t.at 2).l.length ac_2 ∧ ρ 1 = r ∧ ρ 0 = .pointer (some ⟨vb,0,none⟩) ∧ ρ 5 = .int .i16 ver ∧ ρ 6 = .bool false ∧ AppR 5 B w v s (([] ++ X_0 ++ XL_2) ++ ((t.at 2).l.take j).flatMap (fun x => partS (d + 2) fs_X1 ver false x)) r w')
      (fun ρ _ => (t.at 2).l.length - (RowKit.intOf (ρ 58)).toNat) ?_ ?_) ?_
  · refine ⟨0,_,Nat.zero_le _,?_,?_,?_,?_,?_,?_,?_,ha2.eqs (by rw [List.take_zero,List.flatMap_nil,List.append_nil])⟩ <;> simp (maxSteps:=1000000)(disch:=(first|omega|(simp only [qI,qJ,qK]<;>omega)|exact qL _)) only [go_sem,↓reduceIte,n0,reduceCtorEq,n1,n2,n3,n4,n5,i0,i1,i2,i3,i4,i5,i6,i7]
    all_goals rfl
  · rintro ρ w3 ⟨j1,r3,hj1,hI1,hN1,hS1,hr1_1,hr1_0,hr1_5,hr1_6,ha3⟩
    have hB3 : B ≤ w3.heap.size := Nat.le_trans hB ha3.upd.size
    have hv_3 := ha3.upd.blk_some hv hdv
    by_cases hlt1 : j1 < (t.at 2).l.length
    · obtain ⟨_,b1,o1,x1,ce1,hb1,hok1,hx1,hbl1,hxs1,hxe1,hq1,hRe1⟩ := SlR.get (size := 3) (by decide) hs_2 hlt1
      subst hb1
      have hcat1 : (t.at 2).l.take (j1 + 1) = (t.at 2).l.take j1 ++ [(t.at 2).l[j1]] := List.take_succ_eq_append_getElem hlt1
      have htl1 := take_flatMap_len (t.at 2).l (fun x => partS (d + 2) fs_X1 ver false x) (j1 + 1)
      rw [← hXE_2,hcat1,List.flatMap_append,List.flatMap_cons,List.flatMap_nil,List.append_nil] at htl1
      have hge1 := (g_2.list rfl).2 _ (List.getElem_mem hlt1)
      generalize (t.at 2).l[j1] = y1 at *
      have hnx1 := hd b1 hbl1 hok1
      obtain ⟨T1,hTT1⟩ : ∃ T,T = ((t.at 2).l.take j1).flatMap (fun x => partS (d + 2) fs_X1 ver false x) := ⟨_,rfl⟩
      rw [← hTT1] at ha3 htl1
      have hx1_3 := ha3.upd.blk_some hx1 hnx1
      replace hRe1 : RepS true (d + 2) fs_X1 okM w y1 ce1 := Rep1_part.1 hRe1
      have hfe1 : FitW ver (d + 2) fs_X1 y1 := hge1.2 rfl
      obtain ⟨⟨ge1_0,ge1_1,-⟩,hfue1⟩ := hfe1
      replace ge1_0 : hasS fX1_0 ver = true → FitWF (FitW ver (d + 1)) ver fX1_0 (y1.at 0) := ge1_0
      have hhe1_0 : hasS fX1_0 ver = true := hasS_t (by show (0 : Int) ≤ ver;omega) (by show (-1 : Int) < 0 ∨ ver ≤ (-1 : Int);omega)
      replace ge1_0 := ge1_0 hhe1_0
      replace ge1_1 : hasS fX1_1 ver = true → FitWF (FitW ver (d + 1)) ver fX1_1 (y1.at 1) := ge1_1
      have hhe1_1 : hasS fX1_1 ver = true := hasS_t (by show (0 : Int) ≤ ver;omega) (by show (-1 : Int) < 0 ∨ ver ≤ (-1 : Int);omega)
      replace ge1_1 := ge1_1 hhe1_1
      obtain ⟨cse1,qe1,hcse1,hLe1,hTe1⟩ := hRe1.inv
      obtain ⟨ce1_0,ee1_0,rfl,he1_0,ce1_1,ee1_1,rfl,he1_1,rfl⟩ := hLe1
      replace he1_0 : RepF (RepS true (d + 1)) (szS true (d + 1)) fX1_0 okM w (y1.at 0) ce1_0 := he1_0
      replace he1_1 : RepF (RepS true (d + 1)) (szS true (d + 1)) fX1_1 okM w (y1.at 1) ce1_1 := he1_1
      obtain rfl := (RepF_text rfl (by decide)).1 he1_0
      obtain ⟨pe1_1,rfl,hse1_1⟩ := RepF_listW ge1_1 rfl (by decide) he1_1
      obtain ⟨abe1_1,ace1_1,rfl,_⟩ := SlR.shape hse1_1
      have hlle1_1 := (ge1_1.list rfl).1
      obtain ⟨qme1,rfl⟩ := hTe1.shape
      subst hcse1
      have hq1_0 : x1.1[o1 + j1 * 3]? = some (strV (y1.at 0).s) := hq1 0 (by decide)
      have hq1_1 : x1.1[o1 + (j1 * 3 + 1)]? = some (.slice abe1_1 (y1.at 1).l.length ace1_1) := hq1 1 (by decide)
      have hq1_2 : x1.1[o1 + (j1 * 3 + 2)]? = some (.map qme1) := hq1 2 (by decide)
      obtain ⟨Xe1_0,hXXe1_0⟩ : ∃ X,X = fixedS (y1.at 0).s.length 2 ++ (y1.at 0).s := ⟨_,rfl⟩
      obtain ⟨XLe1_1,hXLe1_1⟩ : ∃ X,X = fixedS (y1.at 1).l.length 4 := ⟨_,rfl⟩
      obtain ⟨XEe1_1,hXEe1_1⟩ : ∃ X,X = (y1.at 1).l.flatMap (fun x => partS (d + 1) fs_X0 ver false x) := ⟨_,rfl⟩
      have hPe1 : partS (d + 2) fs_X1 ver false y1 = Xe1_0 ++ ((XLe1_1 ++ XEe1_1) ++ []) := partS_no (plainL_has (by decide) hhe1_0 ((fieldS_text_f ge1_0 rfl (by decide)).trans hXXe1_0.symm) (plainL_has (by decide) hhe1_1 ((fieldS_list_f (g := (fun x => partS (d + 1) fs_X0 ver false x)) ge1_1 rfl (by decide) (fun x _ => valueS_part)).trans (by rw [hXLe1_1,hXEe1_1])) rfl))
      rw [hPe1] at htl1
      simp only [List.length_append,List.length_nil] at htl1
      repeat ((first | refine qA rfl ?_|refine qB ?_|refine qC rfl ?_|refine qD ?_|refine qE ?_|refine qF ?_|refine qG ?_|refine qH ?_);try simp (maxSteps:=1000000)(disch:=(first|omega|(simp only [qI,qJ,qK]<;>omega)|exact qL _)) only [go_sem,↓reduceIte,n0,reduceCtorEq,n1,n2,n3,n4,n5,i0,i1,i2,i3,i4,i5,i6,i7,hv_3,hx1_3,Int.toNat_natCast,Nat.mul_one,hq1_0,hq1_1,hq1_2,hr1_1,hr1_0,hr1_5,hr1_6,hI1,hN1,hS1])
      refine (AppendString_fn _ _ _ ha3.own hB3 (y1.at 0).s (ge1_0.text (.inl rfl)) (by simp only [List.length_append,List.length_nil];omega)).mono ?_
      rintro r4 w4 hc4
      rw [← hXXe1_0] at hc4
      have ha4 := ha3.trans hc4
      have hB4 : B ≤ w4.heap.size := Nat.le_trans hB ha4.upd.size
      have hv_4 := ha4.upd.blk_some hv hdv
      have hx1_4 := ha4.upd.blk_some hx1 hnx1
      repeat ((first | refine qA rfl ?_|refine qB ?_|refine qC rfl ?_|refine qD ?_|refine qE ?_|refine qF ?_|refine qG ?_|refine qH ?_);try simp (maxSteps:=1000000)(disch:=(first|omega|(simp only [qI,qJ,qK]<;>omega)|exact qL _)) only [go_sem,↓reduceIte,n0,reduceCtorEq,n1,n2,n3,n4,n5,i0,i1,i2,i3,i4,i5,i6,i7,hv_4,hx1_4,Int.toNat_natCast,Nat.mul_one,hq1_0,hq1_1,hq1_2,hr1_1,hr1_0,hr1_5,hr1_6,hI1,hN1,hS1])
      refine (AppendArrayLen_fn _ _ _ ha4.own hB4 (y1.at 1).l.length hlle1_1 (by simp only [List.length_append,List.length_nil];omega)).mono ?_
      rintro r5 w5 hc5
      rw [← hXLe1_1] at hc5
      have ha5 := ha4.trans hc5
      have hB5 : B ≤ w5.heap.size := Nat.le_trans hB ha5.upd.size
      have hv_5 := ha5.upd.blk_some hv hdv
      have hx1_5 := ha5.upd.blk_some hx1 hnx1
      repeat ((first | refine qA rfl ?_|refine qB ?_|refine qC rfl ?_|refine qD ?_|refine qE ?_|refine qF ?_|refine qG ?_|refine qH ?_);try simp (maxSteps:=1000000)(disch:=(first|omega|(simp only [qI,qJ,qK]<;>omega)|exact qL _)) only [go_sem,↓reduceIte,n0,reduceCtorEq,n1,n2,n3,n4,n5,i0,i1,i2,i3,i4,i5,i6,i7,hv_5,hx1_5,Int.toNat_natCast,Nat.mul_one,hq1_0,hq1_1,hq1_2,hr1_1,hr1_0,hr1_5,hr1_6,hI1,hN1,hS1])
      have hadd2 := ha5
      refine W.exitJ 2 (fun ρ w' => ∃ r,ρ 1 = r ∧ ρ 0 = .pointer (some ⟨vb,0,none⟩) ∧ ρ 5 = .int .i16 ver ∧ ρ 6 = .bool false ∧ ρ 58 = .int .i64 j1 ∧ ρ 57 = .int .i64 (t.at 2).l.length ∧ ρ 9 = .slice (some ⟨b1,o1,none⟩) (t.at 2).l.length ac_2 ∧ ρ 11 = .pointer (some ⟨b1,o1 + j1 * 3,none⟩) ∧ AppR 5 B w v s (([] ++ X_0 ++ XL_2 ++ T1 ++ Xe1_0 ++ XLe1_1) ++ XEe1_1) r w')
        (W.loop (fun ρ w' => ∃ (j : Nat) (r : Value),j ≤ (y1.at 1).l.length ∧ ρ 90 = .int .i64 j ∧ ρ 89 = .int .i64 (y1.at 1).l.length ∧ ρ 13 = .slice abe1_1 (y1.at 1).l.length ace1_1 ∧ ρ 1 = r ∧ ρ 0 = .pointer (some ⟨vb,0,none⟩) ∧ ρ 5 = .int .i16 ver ∧ ρ 6 = .bool false ∧ ρ 58 = .int .i64 j1 ∧ ρ 57 = .int .i64 (t.at 2).l.length ∧ ρ 9 = .slice (some ⟨b1,o1,none⟩) (t.at 2).l.length ac_2 ∧ ρ 11 = .pointer (some ⟨b1,o1 + j1 * 3,none⟩) ∧ AppR 5 B w v s (([] ++ X_0 ++ XL_2 ++ T1 ++ Xe1_0 ++ XLe1_1) ++ ((y1.at 1).l.take j).flatMap (fun x => partS (d + 1) fs_X0 ver false x)) r w')
          (fun ρ _ => (y1.at 1).l.length - (RowKit.intOf (ρ 90)).toNat) ?_ ?_) ?_
      · refine ⟨0,_,Nat.zero_le _,?_,?_,?_,?_,?_,?_,?_,?_,?_,?_,?_,ha5.eqs (by rw [List.take_zero,List.flatMap_nil,List.append_nil])⟩ <;> simp (maxSteps:=1000000)(disch:=(first|omega|(simp only [qI,qJ,qK]<;>omega)|exact qL _)) only [go_sem,↓reduceIte,n0,reduceCtorEq,n1,n2,n3,n4,n5,i0,i1,i2,i3,i4,i5,i6,i7,hr1_1,hr1_0,hr1_5,hr1_6,hI1,hN1,hS1]
        all_goals rfl
      · rintro ρ w6 ⟨j2,r6,hj2,hI2,hN2,hS2,hr1_2,hr2_0,hr2_5,hr2_6,hr2_58,hr2_57,hr2_9,hr2_11,ha6⟩
        have hB6 : B ≤ w6.heap.size := Nat.le_trans hB ha6.upd.size
        have hv_6 := ha6.upd.blk_some hv hdv
        have hx1_6 := ha6.upd.blk_some hx1 hnx1
        by_cases hlt2 : j2 < (y1.at 1).l.length
        · obtain ⟨_,b2,o2,x2,ce2,hb2,hok2,hx2,hbl2,hxs2,hxe2,hq2,hRe2⟩ := SlR.get (size := 4) (by decide) hse1_1 hlt2
          subst hb2
          have hcat2 : (y1.at 1).l.take (j2 + 1) = (y1.at 1).l.take j2 ++ [(y1.at 1).l[j2]] := List.take_succ_eq_append_getElem hlt2
          have htl2 := take_flatMap_len (y1.at 1).l (fun x => partS (d + 1) fs_X0 ver false x) (j2 + 1)
          rw [← hXEe1_1,hcat2,List.flatMap_append,List.flatMap_cons,List.flatMap_nil,List.append_nil] at htl2
          have hge2 := (ge1_1.list rfl).2 _ (List.getElem_mem hlt2)
          generalize (y1.at 1).l[j2] = y2 at *
          have hnx2 := hd b2 hbl2 hok2
          obtain ⟨T2,hTT2⟩ : ∃ T,T = ((y1.at 1).l.take j2).flatMap (fun x => partS (d + 1) fs_X0 ver false x) := ⟨_,rfl⟩
          rw [← hTT2] at ha6 htl2
          have hx2_6 := ha6.upd.blk_some hx2 hnx2
          replace hRe2 : RepS true (d + 1) fs_X0 okM w y2 ce2 := Rep1_part.1 hRe2
          have hfe2 : FitW ver (d + 1) fs_X0 y2 := hge2.2 rfl
          obtain ⟨⟨ge2_0,ge2_1,ge2_2,-⟩,hfue2⟩ := hfe2
          replace ge2_0 : hasS fX0_0 ver = true → FitWF (FitW ver d) ver fX0_0 (y2.at 0) := ge2_0
          have hhe2_0 : hasS fX0_0 ver = true := hasS_t (by show (0 : Int) ≤ ver;omega) (by show (-1 : Int) < 0 ∨ ver ≤ (-1 : Int);omega)
          replace ge2_0 := ge2_0 hhe2_0
          replace ge2_1 : hasS fX0_1 ver = true → FitWF (FitW ver d) ver fX0_1 (y2.at 1) := ge2_1
          have hhe2_1 : hasS fX0_1 ver = true := hasS_t (by show (0 : Int) ≤ ver;omega) (by show (-1 : Int) < 0 ∨ ver ≤ (-1 : Int);omega)
          replace ge2_1 := ge2_1 hhe2_1
          replace ge2_2 : hasS fX0_2 ver = true → FitWF (FitW ver d) ver fX0_2 (y2.at 2) := ge2_2
          have hhe2_2 : hasS fX0_2 ver = true := hasS_t (by show (0 : Int) ≤ ver;omega) (by show (-1 : Int) < 0 ∨ ver ≤ (-1 : Int);omega)
          replace ge2_2 := ge2_2 hhe2_2
          obtain ⟨cse2,qe2,hcse2,hLe2,hTe2⟩ := hRe2.inv
          obtain ⟨ce2_0,ee2_0,rfl,he2_0,ce2_1,ee2_1,rfl,he2_1,ce2_2,ee2_2,rfl,he2_2,rfl⟩ := hLe2
          replace he2_0 : RepF (RepS true d) (szS true d) fX0_0 okM w (y2.at 0) ce2_0 := he2_0
          replace he2_1 : RepF (RepS true d) (szS true d) fX0_1 okM w (y2.at 1) ce2_1 := he2_1
          replace he2_2 : RepF (RepS true d) (szS true d) fX0_2 okM w (y2.at 2) ce2_2 := he2_2
          obtain rfl := (RepF_num (by decide)).1 he2_0
          obtain rfl := (RepF_num (by decide)).1 he2_1
          obtain ⟨pe2_2,rfl,hpe2_2⟩ := (RepF_ptr rfl (by decide)).1 he2_2
          obtain ⟨qme2,rfl⟩ := hTe2.shape
          subst hcse2
          have hq2_0 : x2.1[o2 + j2 * 4]? = some (.int .i32 (IntKind.i32.wrap (y2.at 0).n)) := hq2 0 (by decide)
          have hq2_1 : x2.1[o2 + (j2 * 4 + 1)]? = some (.int .i16 (IntKind.i16.wrap (y2.at 1).n)) := hq2 1 (by decide)
          have hq2_2 : x2.1[o2 + (j2 * 4 + 2)]? = some (pe2_2) := hq2 2 (by decide)
          have hq2_3 : x2.1[o2 + (j2 * 4 + 3)]? = some (.map qme2) := hq2 3 (by decide)
          obtain ⟨Xe2_0,hXXe2_0⟩ : ∃ X,X = fixedS (y2.at 0).n 4 := ⟨_,rfl⟩
          obtain ⟨Xe2_1,hXXe2_1⟩ : ∃ X,X = fixedS (y2.at 1).n 2 := ⟨_,rfl⟩
          obtain ⟨Xe2_2,hXXe2_2⟩ : ∃ X,X = if (y2.at 2).null = true then fixedS (-1) 2 else fixedS (y2.at 2).s.length 2 ++ (y2.at 2).s := ⟨_,rfl⟩
          have hPe2 : partS (d + 1) fs_X0 ver false y2 = Xe2_0 ++ (Xe2_1 ++ (Xe2_2 ++ [])) := partS_no (plainL_has (by decide) hhe2_0 ((fieldS_num 3 rfl (by decide)).trans hXXe2_0.symm) (plainL_has (by decide) hhe2_1 ((fieldS_num 2 rfl (by decide)).trans hXXe2_1.symm) (plainL_has (by decide) hhe2_2 ((fieldS_ptr_f ge2_2 rfl (by decide)).trans hXXe2_2.symm) rfl)))
          rw [hPe2] at htl2
          simp only [List.length_append,List.length_nil] at htl2
          repeat ((first | refine qA rfl ?_|refine qB ?_|refine qC rfl ?_|refine qD ?_|refine qE ?_|refine qF ?_|refine qG ?_|refine qH ?_);try simp (maxSteps:=1000000)(disch:=(first|omega|(simp only [qI,qJ,qK]<;>omega)|exact qL _)) only [go_sem,↓reduceIte,n0,reduceCtorEq,n1,n2,n3,n4,n5,i0,i1,i2,i3,i4,i5,i6,i7,hv_6,hx1_6,hx2_6,Int.toNat_natCast,Nat.mul_one,hq1_0,hq1_1,hq1_2,hq2_0,hq2_1,hq2_2,hq2_3,hr1_2,hr2_0,hr2_5,hr2_6,hr2_58,hr2_57,hr2_9,hr2_11,hI2,hN2,hS2])
          refine (AppendInt32_fn _ _ _ ha6.own hB6 _ (by simp only [List.length_append,List.length_nil];omega)).mono ?_
          rintro r7 w7 hc7
          rw [wrap32,← hXXe2_0] at hc7
          have ha7 := ha6.trans hc7
          have hB7 : B ≤ w7.heap.size := Nat.le_trans hB ha7.upd.size
          have hv_7 := ha7.upd.blk_some hv hdv
          have hx1_7 := ha7.upd.blk_some hx1 hnx1
          have hx2_7 := ha7.upd.blk_some hx2 hnx2
          repeat ((first | refine qA rfl ?_|refine qB ?_|refine qC rfl ?_|refine qD ?_|refine qE ?_|refine qF ?_|refine qG ?_|refine qH ?_);try simp (maxSteps:=1000000)(disch:=(first|omega|(simp only [qI,qJ,qK]<;>omega)|exact qL _)) only [go_sem,↓reduceIte,n0,reduceCtorEq,n1,n2,n3,n4,n5,i0,i1,i2,i3,i4,i5,i6,i7,hv_7,hx1_7,hx2_7,Int.toNat_natCast,Nat.mul_one,hq1_0,hq1_1,hq1_2,hq2_0,hq2_1,hq2_2,hq2_3,hr1_2,hr2_0,hr2_5,hr2_6,hr2_58,hr2_57,hr2_9,hr2_11,hI2,hN2,hS2])
          refine (AppendInt16_fn _ _ _ ha7.own hB7 _ (by simp only [List.length_append,List.length_nil];omega)).mono ?_
          rintro r8 w8 hc8
          rw [wrap16,← hXXe2_1] at hc8
          have ha8 := ha7.trans hc8
          have hB8 : B ≤ w8.heap.size := Nat.le_trans hB ha8.upd.size
          have hv_8 := ha8.upd.blk_some hv hdv
          have hx1_8 := ha8.upd.blk_some hx1 hnx1
          have hx2_8 := ha8.upd.blk_some hx2 hnx2
          repeat ((first | refine qA rfl ?_|refine qB ?_|refine qC rfl ?_|refine qD ?_|refine qE ?_|refine qF ?_|refine qG ?_|refine qH ?_);try simp (maxSteps:=1000000)(disch:=(first|omega|(simp only [qI,qJ,qK]<;>omega)|exact qL _)) only [go_sem,↓reduceIte,n0,reduceCtorEq,n1,n2,n3,n4,n5,i0,i1,i2,i3,i4,i5,i6,i7,hv_8,hx1_8,hx2_8,Int.toNat_natCast,Nat.mul_one,hq1_0,hq1_1,hq1_2,hq2_0,hq2_1,hq2_2,hq2_3,hr1_2,hr2_0,hr2_5,hr2_6,hr2_58,hr2_57,hr2_9,hr2_11,hI2,hN2,hS2])
          refine (AppendNullableString_fn (ok := okM) _ _ _ ha8.own hB8 _ (y2.at 2).null (y2.at 2).s (hpe2_2.keep (ha8.upd.keeps hd)) (ge2_2.text (.inl rfl)) (by simp only [List.length_append,List.length_nil];omega)).mono ?_
          rintro r9 w9 hc9
          rw [← hXXe2_2] at hc9
          have ha9 := ha8.trans hc9
          have hB9 : B ≤ w9.heap.size := Nat.le_trans hB ha9.upd.size
          have hv_9 := ha9.upd.blk_some hv hdv
          have hx1_9 := ha9.upd.blk_some hx1 hnx1
          have hx2_9 := ha9.upd.blk_some hx2 hnx2
          repeat ((first | refine qA rfl ?_|refine qB ?_|refine qC rfl ?_|refine qD ?_|refine qE ?_|refine qF ?_|refine qG ?_|refine qH ?_);try simp (maxSteps:=1000000)(disch:=(first|omega|(simp only [qI,qJ,qK]<;>omega)|exact qL _)) only [go_sem,↓reduceIte,n0,reduceCtorEq,n1,n2,n3,n4,n5,i0,i1,i2,i3,i4,i5,i6,i7,hr1_2,hr2_0,hr2_5,hr2_6,hr2_58,hr2_57,hr2_9,hr2_11,hI2,hN2,hS2])
          refine ⟨⟨j2 + 1,_,by omega,rfl,rfl,ha9.eqs ?_⟩,?_⟩
          · rw [hcat2,List.flatMap_append,List.flatMap_cons,List.flatMap_nil,List.append_nil,← hTT2,hPe2];simp only [List.append_assoc,List.append_nil,List.nil_append]
          · simp only [RowKit.intOf];omega
        · have hjl2 : j2 = (y1.at 1).l.length := by omega
          subst hjl2
          rw [List.take_length,← hXEe1_1] at ha6
          repeat ((first | refine qA rfl ?_|refine qB ?_|refine qC rfl ?_|refine qD ?_|refine qE ?_|refine qF ?_|refine qG ?_|refine qH ?_);try simp (maxSteps:=1000000)(disch:=(first|omega|(simp only [qI,qJ,qK]<;>omega)|exact qL _)) only [go_sem,↓reduceIte,n0,reduceCtorEq,n1,n2,n3,n4,n5,i0,i1,i2,i3,i4,i5,i6,i7,hI2,hN2])
          exact ⟨_,hr1_2,hr2_0,hr2_5,hr2_6,hr2_58,hr2_57,hr2_9,hr2_11,ha6⟩
      · rintro ρ w10 ⟨r10,hr1_3,hr3_0,hr3_5,hr3_6,hr3_58,hr3_57,hr3_9,hr3_11,ha10⟩
        have hB10 : B ≤ w10.heap.size := Nat.le_trans hB ha10.upd.size
        have hv_10 := ha10.upd.blk_some hv hdv
        have hx1_10 := ha10.upd.blk_some hx1 hnx1
        repeat ((first | refine qA rfl ?_|refine qB ?_|refine qC rfl ?_|refine qD ?_|refine qE ?_|refine qF ?_|refine qG ?_|refine qH ?_);try simp (maxSteps:=1000000)(disch:=(first|omega|(simp only [qI,qJ,qK]<;>omega)|exact qL _)) only [go_sem,↓reduceIte,n0,reduceCtorEq,n1,n2,n3,n4,n5,i0,i1,i2,i3,i4,i5,i6,i7,hr1_3,hr3_0,hr3_5,hr3_6,hr3_58,hr3_57,hr3_9,hr3_11])
        refine ⟨⟨j1 + 1,_,by omega,rfl,rfl,ha10.eqs ?_⟩,?_⟩
        · rw [hcat1,List.flatMap_append,List.flatMap_cons,List.flatMap_nil,List.append_nil,← hTT1,hPe1];simp only [List.append_assoc,List.append_nil,List.nil_append]
        · simp only [RowKit.intOf];omega
    · have hjl1 : j1 = (t.at 2).l.length := by omega
      subst hjl1
      rw [List.take_length,← hXE_2] at ha3
      repeat ((first | refine qA rfl ?_|refine qB ?_|refine qC rfl ?_|refine qD ?_|refine qE ?_|refine qF ?_|refine qG ?_|refine qH ?_);try simp (maxSteps:=1000000)(disch:=(first|omega|(simp only [qI,qJ,qK]<;>omega)|exact qL _)) only [go_sem,↓reduceIte,n0,reduceCtorEq,n1,n2,n3,n4,n5,i0,i1,i2,i3,i4,i5,i6,i7,hI1,hN1])
      exact ⟨_,hr1_1,hr1_0,hr1_5,hr1_6,ha3⟩
  · rintro ρ w11 ⟨r11,hr1_4,hr4_0,hr4_5,hr4_6,ha11⟩
    have hB11 : B ≤ w11.heap.size := Nat.le_trans hB ha11.upd.size
    have hv_11 := ha11.upd.blk_some hv hdv
    repeat ((first | refine qA rfl ?_|refine qB ?_|refine qC rfl ?_|refine qD ?_|refine qE ?_|refine qF ?_|refine qG ?_|refine qH ?_);try simp (maxSteps:=1000000)(disch:=(first|omega|(simp only [qI,qJ,qK]<;>omega)|exact qL _)) only [go_sem,↓reduceIte,n0,reduceCtorEq,n1,n2,n3,n4,n5,i0,i1,i2,i3,i4,i5,i6,i7,hv_11,hr1_4,hr4_0,hr4_5,hr4_6])
    refine ha11.eqs ?_
    rw [hP];simp only [List.append_assoc,List.append_nil,List.nil_append]
end Ms

namespace Ms
open Go.World renaming size_alloc → qI
open Ms renaming size_wr → qJ,size_drew → qK,not_noB → qL
open W renaming seqR → qA,seq → qB,regR → qC,condK → qD,block → qE,skip → qF,ret → qG,exit → qH
open Nat renaming reduceEqDiff → n0,reduceAdd → n1,reduceMul → n2,reduceSub → n3,reduceLT → n4,reduceLeDiff → n5
open Int renaming reduceEq → i0,reduceLT → i1,reduceLE → i2,reduceNeg → i3,reduceAdd → i4,reduceSub → i5,reduceMul → i6,reduceToNat → i7
set_option maxRecDepth 8000
open Go Go.Proofs Go.Shelf
attribute [local congr] W_congr WPsq_congr WPp_congr optK_congr addrK_congr intK_congr boolK_congr sliceK_congr tupleK_congr funcK_congr Fn_congr rawK_congr takeK_congr stepK_congr convK_congr aggK_congr

set_option maxHeartbeats 4000000 in
theorem appElectLeadersResponse_1 {d B : Nat} {okM : Blocks} {ver : Int} (hlo : 1 ≤ ver) (hhi : ver ≤ 1) (t : Tree) (cells : List Value) (v : Value) (s : List UInt8) (w : World) {vb : Nat} (ho : OwnBy 5 B w v s) (hB : B ≤ w.heap.size) (hvb : blk w vb = some ((.int .i16 ver :: cells).toArray,113,(0,0)))
    (hR : RepS true (d + 3) fs_ElectLeadersResponse okM w t cells) (hfit : FitW ver (d + 3) fs_ElectLeadersResponse t) (hd : ∀ b,b < w.heap.size → okM b → ¬ ownB v b) (hdv : ¬ ownB v vb) (hlen : s.length + (partS (d + 3) fs_ElectLeadersResponse ver false t).length ≤ 2 ^ 41) :
    Fn Tryz.prog 64 #[.pointer (some ⟨vb,0,none⟩),v] w fun r w' => AppR 5 B w v s (partS (d + 3) fs_ElectLeadersResponse ver false t) r w' := by
  obtain ⟨⟨g_0,g_1,g_2,-⟩,hfu⟩ := hfit
  replace g_0 : hasS fElectLeadersResponse_0 ver = true → FitWF (FitW ver (d + 2)) ver fElectLeadersResponse_0 (t.at 0) := g_0
  have hh_0 : hasS fElectLeadersResponse_0 ver = true := hasS_t (by show (0 : Int) ≤ ver;omega) (by show (-1 : Int) < 0 ∨ ver ≤ (-1 : Int);omega)
  replace g_0 := g_0 hh_0
  replace g_1 : hasS fElectLeadersResponse_1 ver = true → FitWF (FitW ver (d + 2)) ver fElectLeadersResponse_1 (t.at 1) := g_1
  have hh_1 : hasS fElectLeadersResponse_1 ver = true := hasS_t (by show (1 : Int) ≤ ver;omega) (by show (-1 : Int) < 0 ∨ ver ≤ (-1 : Int);omega)
  replace g_1 := g_1 hh_1
  replace g_2 : hasS fElectLeadersResponse_2 ver = true → FitWF (FitW ver (d + 2)) ver fElectLeadersResponse_2 (t.at 2) := g_2
  have hh_2 : hasS fElectLeadersResponse_2 ver = true := hasS_t (by show (0 : Int) ≤ ver;omega) (by show (-1 : Int) < 0 ∨ ver ≤ (-1 : Int);omega)
  replace g_2 := g_2 hh_2
  obtain ⟨cs,q,hcs,hL,hT⟩ := hR.inv
  obtain ⟨c_0,e_0,rfl,h_0,c_1,e_1,rfl,h_1,c_2,e_2,rfl,h_2,rfl⟩ := hL
  replace h_0 : RepF (RepS true (d + 2)) (szS true (d + 2)) fElectLeadersResponse_0 okM w (t.at 0) c_0 := h_0
  replace h_1 : RepF (RepS true (d + 2)) (szS true (d + 2)) fElectLeadersResponse_1 okM w (t.at 1) c_1 := h_1
  replace h_2 : RepF (RepS true (d + 2)) (szS true (d + 2)) fElectLeadersResponse_2 okM w (t.at 2) c_2 := h_2
  obtain rfl := (RepF_num (by decide)).1 h_0
  obtain rfl := (RepF_num (by decide)).1 h_1
  obtain ⟨p_2,rfl,hs_2⟩ := RepF_listW g_2 rfl (by decide) h_2
  obtain ⟨ab_2,ac_2,rfl,_⟩ := SlR.shape hs_2
  have hll_2 := (g_2.list rfl).1
  obtain ⟨qm,rfl⟩ := hT.shape
  have hv : blk w vb = some (#[.int .i16 ver,.int .i32 (IntKind.i32.wrap (t.at 0).n),.int .i16 (IntKind.i16.wrap (t.at 1).n),.slice ab_2 (t.at 2).l.length ac_2,.map qm],113,(0,0)) := by rw [hvb,hcs];rfl
  clear hvb hcs
  obtain ⟨X_0,hXX_0⟩ : ∃ X,X = fixedS (t.at 0).n 4 := ⟨_,rfl⟩
  obtain ⟨X_1,hXX_1⟩ : ∃ X,X = fixedS (t.at 1).n 2 := ⟨_,rfl⟩
  obtain ⟨XL_2,hXL_2⟩ : ∃ X,X = fixedS (t.at 2).l.length 4 := ⟨_,rfl⟩
  obtain ⟨XE_2,hXE_2⟩ : ∃ X,X = (t.at 2).l.flatMap (fun x => partS (d + 2) fs_X1 ver false x) := ⟨_,rfl⟩
  have hP : partS (d + 3) fs_ElectLeadersResponse ver false t = X_0 ++ (X_1 ++ ((XL_2 ++ XE_2) ++ [])) := partS_no (plainL_has (by decide) hh_0 ((fieldS_num 3 rfl (by decide)).trans hXX_0.symm) (plainL_has (by decide) hh_1 ((fieldS_num 2 rfl (by decide)).trans hXX_1.symm) (plainL_has (by decide) hh_2 ((fieldS_list_f (g := (fun x => partS (d + 2) fs_X1 ver false x)) g_2 rfl (by decide) (fun x _ => valueS_part)).trans (by rw [hXL_2,hXE_2])) rfl)))
  rw [hP] at hlen
  simp only [List.length_append,List.length_nil] at hlen
  have hdK : ∀ {r : Value} {w' : World} {add : List UInt8},AppR 5 B w v s add r w' → ∀ b,b < w'.heap.size → OkS okM w.heap.size b → ¬ ownB r b := fun h b _ hk ho => (h.frame b ho).elim (hd b hk.2 hk.1) (fun h => by have := hk.2;omega)
  have ownK : ∀ {r : Value} {w' : World} {add : List UInt8} {b : Nat},AppR 5 B w v s add r w' → b < w.heap.size → ¬ ownB v b → ¬ ownB r b := fun h hb hn ho => (h.frame _ ho).elim hn (fun h => by omega)
  have ha0 : AppR 5 B w v s [] v w := AppR.refl ho
  obtain ⟨w0,hw0⟩ : ∃ w0,w0 = w := ⟨_,rfl⟩
  have hB0 := hB
  have hv_0 := hv
  refine fn_of_W Tryz.func64 rfl Tryz.results64 Tryz.ntmps64 rfl ?_
  repeat ((first | refine qA rfl ?_|refine qB ?_|refine qC rfl ?_|refine qD ?_|refine qE ?_|refine qF ?_|refine qG ?_|refine qH ?_);try simp (maxSteps:=1000000)(disch:=(first|omega|(simp only [qI,qJ,qK]<;>omega)|exact qL _)) only [go_sem,↓reduceIte,n0,reduceCtorEq,n1,n2,n3,n4,n5,i0,i1,i2,i3,i4,i5,i6,i7,hv_0])
  refine (AppendInt32_fn _ _ _ ha0.own hB0 _ (by simp only [List.length_append,List.length_nil];omega)).mono ?_
  rintro r1 w1 hc1
  rw [wrap32,← hXX_0] at hc1
  have ha1 := ha0.trans hc1
  have hB1 : B ≤ w1.heap.size := Nat.le_trans hB ha1.upd.size
  have hv_1 := ha1.upd.blk_some hv hdv
  repeat ((first | refine qA rfl ?_|refine qB ?_|refine qC rfl ?_|refine qD ?_|refine qE ?_|refine qF ?_|refine qG ?_|refine qH ?_);try simp (maxSteps:=1000000)(disch:=(first|omega|(simp only [qI,qJ,qK]<;>omega)|exact qL _)) only [go_sem,↓reduceIte,n0,reduceCtorEq,n1,n2,n3,n4,n5,i0,i1,i2,i3,i4,i5,i6,i7,hv_1])
  refine (AppendInt16_fn _ _ _ ha1.own hB1 _ (by simp only [List.length_append,List.length_nil];omega)).mono ?_
  rintro r2 w2 hc2
  rw [wrap16,← hXX_1] at hc2
  have ha2 := ha1.trans hc2
  have hB2 : B ≤ w2.heap.size := Nat.le_trans hB ha2.upd.size
  have hv_2 := ha2.upd.blk_some hv hdv
  repeat ((first | refine qA rfl ?_|refine qB ?_|refine qC rfl ?_|refine qD ?_|refine qE ?_|refine qF ?_|refine qG ?_|refine qH ?_);try simp (maxSteps:=1000000)(disch:=(first|omega|(simp only [qI,qJ,qK]<;>omega)|exact qL _)) only [go_sem,↓reduceIte,n0,reduceCtorEq,n1,n2,n3,n4,n5,i0,i1,i2,i3,i4,i5,i6,i7,hv_2])
  refine (AppendArrayLen_fn _ _ _ ha2.own hB2 (t.at 2).l.length hll_2 (by simp only [List.length_append,List.length_nil];omega)).mono ?_
  rintro r3 w3 hc3
  rw [← hXL_2] at hc3
  have ha3 := ha2.trans hc3
  have hB3 : B ≤ w3.heap.size := Nat.le_trans hB ha3.upd.size
  have hv_3 := ha3.upd.blk_some hv hdv
  repeat ((first | refine qA rfl ?_|refine qB ?_|refine qC rfl ?_|refine qD ?_|refine qE ?_|refine qF ?_|refine qG ?_|refine qH ?_);try simp (maxSteps:=1000000)(disch:=(first|omega|(simp only [qI,qJ,qK]<;>omega)|exact qL _)) only [go_sem,↓reduceIte,n0,reduceCtorEq,n1,n2,n3,n4,n5,i0,i1,i2,i3,i4,i5,i6,i7,hv_3])
  have hadd1 := ha3
  refine W.exitJ 0 (fun ρ w' => ∃ r,ρ 1 = r ∧ ρ 0 = .pointer (some ⟨vb,0,none⟩) ∧ ρ 5 = .int .i16 ver ∧ ρ 6 = .bool false ∧ AppR 5 B w v s (([] ++ X_0 ++ X_1 ++ XL_2) ++ XE_2) r w')
    (W.loop (fun ρ w' => ∃ (j : Nat) (r : Value),j ≤ (t.at 2).l.length ∧ ρ 58 = .int .i64 j ∧ ρ 57 = .int .i64 (t.at 2).l.length ∧ ρ 9 = .slice ab_2 (t.at 2).l.length ac_2 ∧ ρ 1 = r ∧ ρ 0 = .pointer (some ⟨vb,0,none⟩) ∧ ρ 5 = .int .i16 ver ∧ ρ 6 = .bool false ∧ AppR 5 B w v s (([] ++ X_0 ++ X_1 ++ XL_2) ++ ((t.at 2).l.take j).flatMap (fun x => partS (d + 2) fs_X1 ver false x)) r w')
      (fun ρ _ => (t.at 2).l.length - (RowKit.intOf (ρ 58)).toNat) ?_ ?_) ?_
  · refine ⟨0,_,Nat.zero_le _,?_,?_,?_,?_,?_,?_,?_,ha3.eqs (by rw [List.take_zero,List.flatMap_nil,List.append_nil])⟩ <;> simp (maxSteps:=1000000)(disch:=(first|omega|(simp only [qI,qJ,qK]<;>omega)|exact qL _)) only [go_sem,↓reduceIte,n0,reduceCtorEq,n1,n2,n3,n4,n5,i0,i1,i2,i3,i4,i5,i6,i7]
    all_goals rfl
  · rintro ρ w4 ⟨j1,r4,hj1,hI1,hN1,hS1,hr1_1,hr1_0,hr1_5,hr1_6,ha4⟩
    have hB4 : B ≤ w4.heap.size := Nat.le_trans hB ha4.upd.size
    have hv_4 := ha4.upd.blk_some hv hdv
    by_cases hlt1 : j1 < (t.at 2).l.length
    · obtain ⟨_,b1,o1,x1,ce1,hb1,hok1,hx1,hbl1,hxs1,hxe1,hq1,hRe1⟩ := SlR.get (size := 3) (by decide) hs_2 hlt1
      subst hb1
      have hcat1 : (t.at 2).l.take (j1 + 1) = (t.at 2).l.take j1 ++ [(t.at 2).l[j1]] := List.take_succ_eq_append_getElem hlt1
      have htl1 := take_flatMap_len (t.at 2).l (fun x => partS (d + 2) fs_X1 ver false x) (j1 + 1)
      rw [← hXE_2,hcat1,List.flatMap_append,List.flatMap_cons,List.flatMap_nil,List.append_nil] at htl1
      have hge1 := (g_2.list rfl).2 _ (List.getElem_mem hlt1)
      generalize (t.at 2).l[j1] = y1 at *
      have hnx1 := hd b1 hbl1 hok1
      obtain ⟨T1,hTT1⟩ : ∃ T,T = ((t.at 2).l.take j1).flatMap (fun x => partS (d + 2) fs_X1 ver false x) := ⟨_,rfl⟩
      rw [← hTT1] at ha4 htl1
      have hx1_4 := ha4.upd.blk_some hx1 hnx1
      replace hRe1 : RepS true (d + 2) fs_X1 okM w y1 ce1 := Rep1_part.1 hRe1
      have hfe1 : FitW ver (d + 2) fs_X1 y1 := hge1.2 rfl
      obtain ⟨⟨ge1_0,ge1_1,-⟩,hfue1⟩ := hfe1
      replace ge1_0 : hasS fX1_0 ver = true → FitWF (FitW ver (d + 1)) ver fX1_0 (y1.at 0) := ge1_0
      have hhe1_0 : hasS fX1_0 ver = true := hasS_t (by show (0 : Int) ≤ ver;omega) (by show (-1 : Int) < 0 ∨ ver ≤ (-1 : Int);omega)
      replace ge1_0 := ge1_0 hhe1_0
      replace ge1_1 : hasS fX1_1 ver = true → FitWF (FitW ver (d + 1)) ver fX1_1 (y1.at 1) := ge1_1
      have hhe1_1 : hasS fX1_1 ver = true := hasS_t (by show (0 : Int) ≤ ver;omega) (by show (-1 : Int) < 0 ∨ ver ≤ (-1 : Int);omega)
      replace ge1_1 := ge1_1 hhe1_1
      obtain ⟨cse1,qe1,hcse1,hLe1,hTe1⟩ := hRe1.inv
      obtain ⟨ce1_0,ee1_0,rfl,he1_0,ce1_1,ee1_1,rfl,he1_1,rfl⟩ := hLe1
      replace he1_0 : RepF (RepS true (d + 1)) (szS true (d + 1)) fX1_0 okM w (y1.at 0) ce1_0 := he1_0
      replace he1_1 : RepF (RepS true (d + 1)) (szS true (d + 1)) fX1_1 okM w (y1.at 1) ce1_1 := he1_1
      obtain rfl := (RepF_text rfl (by decide)).1 he1_0
      obtain ⟨pe1_1,rfl,hse1_1⟩ := RepF_listW ge1_1 rfl (by decide) he1_1
      obtain ⟨abe1_1,ace1_1,rfl,_⟩ := SlR.shape hse1_1
      have hlle1_1 := (ge1_1.list rfl).1
      obtain ⟨qme1,rfl⟩ := hTe1.shape
      subst hcse1
      have hq1_0 : x1.1[o1 + j1 * 3]? = some (strV (y1.at 0).s) := hq1 0 (by decide)
      have hq1_1 : x1.1[o1 + (j1 * 3 + 1)]? = some (.slice abe1_1 (y1.at 1).l.length ace1_1) := hq1 1 (by decide)
      have hq1_2 : x1.1[o1 + (j1 * 3 + 2)]? = some (.map qme1) := hq1 2 (by decide)
      obtain ⟨Xe1_0,hXXe1_0⟩ : ∃ X,X = fixedS (y1.at 0).s.length 2 ++ (y1.at 0).s := ⟨_,rfl⟩
      obtain ⟨XLe1_1,hXLe1_1⟩ : ∃ X,X = fixedS (y1.at 1).l.length 4 := ⟨_,rfl⟩
      obtain ⟨XEe1_1,hXEe1_1⟩ : ∃ X,X = (y1.at 1).l.flatMap (fun x => partS (d + 1) fs_X0 ver false x) := ⟨_,rfl⟩
      have hPe1 : partS (d + 2) fs_X1 ver false y1 = Xe1_0 ++ ((XLe1_1 ++ XEe1_1) ++ []) := partS_no (plainL_has (by decide) hhe1_0 ((fieldS_text_f ge1_0 rfl (by decide)).trans hXXe1_0.symm) (plainL_has (by decide) hhe1_1 ((fieldS_list_f (g := (fun x => partS (d + 1) fs_X0 ver false x)) ge1_1 rfl (by decide) (fun x _ => valueS_part)).trans (by rw [hXLe1_1,hXEe1_1])) rfl))
      rw [hPe1] at htl1
      simp only [List.length_append,List.length_nil] at htl1
      repeat ((first | refine qA rfl ?_|refine qB ?_|refine qC rfl ?_|refine qD ?_|refine qE ?_|refine qF ?_|refine qG ?_|refine qH ?_);try simp (maxSteps:=1000000)(disch:=(first|omega|(simp only [qI,qJ,qK]<;>omega)|exact qL _)) only [go_sem,↓reduceIte,n0,reduceCtorEq,n1,n2,n3,n4,n5,i0,i1,i2,i3,i4,i5,i6,i7,hv_4,hx1_4,Int.toNat_natCast,Nat.mul_one,hq1_0,hq1_1,hq1_2,hr1_1,hr1_0,hr1_5,hr1_6,hI1,hN1,hS1])
      refine (AppendString_fn _ _ _ ha4.own hB4 (y1.at 0).s (ge1_0.text (.inl rfl)) (by simp only [List.length_append,List.length_nil];omega)).mono ?_
      rintro r5 w5 hc5
      rw [← hXXe1_0] at hc5
      have ha5 := ha4.trans hc5
      have hB5 : B ≤ w5.heap.size := Nat.le_trans hB ha5.upd.size
      have hv_5 := ha5.upd.blk_some hv hdv
      have hx1_5 := ha5.upd.blk_some hx1 hnx1
      repeat ((first | refine qA rfl ?_|refine qB ?_|refine qC rfl ?_|refine qD ?_|refine qE ?_|refine qF ?_|refine qG ?_|refine qH ?_);try simp (maxSteps:=1000000)(disch:=(first|omega|(simp only [qI,qJ,qK]<;>omega)|exact qL _)) only [go_sem,↓reduceIte,n0,reduceCtorEq,n1,n2,n3,n4,n5,i0,i1,i2,i3,i4,i5,i6,i7,hv_5,hx1_5,Int.toNat_natCast,Nat.mul_one,hq1_0,hq1_1,hq1_2,hr1_1,hr1_0,hr1_5,hr1_6,hI1,hN1,hS1])
      refine (AppendArrayLen_fn _ _ _ ha5.own hB5 (y1.at 1).l.length hlle1_1 (by simp only [List.length_append,List.length_nil];omega)).mono ?_
      rintro r6 w6 hc6
      rw [← hXLe1_1] at hc6
      have ha6 := ha5.trans hc6
      have hB6 : B ≤ w6.heap.size := Nat.le_trans hB ha6.upd.size
      have hv_6 := ha6.upd.blk_some hv hdv
      have hx1_6 := ha6.upd.blk_some hx1 hnx1
      repeat ((first | refine qA rfl ?_|refine qB ?_|refine qC rfl ?_|refine qD ?_|refine qE ?_|refine qF ?_|refine qG ?_|refine qH ?_);try simp (maxSteps:=1000000)(disch:=(first|omega|(simp only [qI,qJ,qK]<;>omega)|exact qL _)) only [go_sem,↓reduceIte,n0,reduceCtorEq,n1,n2,n3,n4,n5,i0,i1,i2,i3,i4,i5,i6,i7,hv_6,hx1_6,Int.toNat_natCast,Nat.mul_one,hq1_0,hq1_1,hq1_2,hr1_1,hr1_0,hr1_5,hr1_6,hI1,hN1,hS1])
      have hadd2 := ha6
      refine W.exitJ 2 (fun ρ w' => ∃ r,ρ 1 = r ∧ ρ 0 = .pointer (some ⟨vb,0,none⟩) ∧ ρ 5 = .int .i16 ver ∧ ρ 6 = .bool false ∧ ρ 58 = .int .i64 j1 ∧ ρ 57 = .int .i64 (t.at 2).l.length ∧ ρ 9 = .slice (some ⟨b1,o1,none⟩) (t.at 2).l.length ac_2 ∧ ρ 11 = .pointer (some ⟨b1,o1 + j1 * 3,none⟩) ∧ AppR 5 B w v s (([] ++ X_0 ++ X_1 ++ XL_2 ++ T1 ++ Xe1_0 ++ XLe1_1) ++ XEe1_1) r w')
        (W.loop (fun ρ w' => ∃ (j : Nat) (r : Value),j ≤ (y1.at 1).l.length ∧ ρ 90 = .int .i64 j ∧ ρ 89 = .int .i64 (y1.at 1).l.length ∧ ρ 13 = .slice abe1_1 (y1.at 1).l.length ace1_1 ∧ ρ 1 = r ∧ ρ 0 = .pointer (some ⟨vb,0,none⟩) ∧ ρ 5 = .int .i16 ver ∧ ρ 6 = .bool false ∧ ρ 58 = .int .i64 j1 ∧ ρ 57 = .int .i64 (t.at 2).l.length ∧ ρ 9 = .slice (some ⟨b1,o1,none⟩) (t.at 2).l.length ac_2 ∧ ρ 11 = .pointer (some ⟨b1,o1 + j1 * 3,none⟩) ∧ AppR 5 B w v s (([] ++ X_0 ++ X_1 ++ XL_2 ++ T1 ++ Xe1_0 ++ XLe1_1) ++ ((y1.at 1).l.take j).flatMap (fun x => partS (d + 1) fs_X0 ver false x)) r w')
          (fun ρ _ => (y1.at 1).l.length - (RowKit.intOf (ρ 90)).toNat) ?_ ?_) ?_
      · refine ⟨0,_,Nat.zero_le _,?_,?_,?_,?_,?_,?_,?_,?_,?_,?_,?_,ha6.eqs (by rw [List.take_zero,List.flatMap_nil,List.append_nil])⟩ <;> simp (maxSteps:=1000000)(disch:=(first|omega|(simp only [qI,qJ,qK]<;>omega)|exact qL _)) only [go_sem,↓reduceIte,n0,reduceCtorEq,n1,n2,n3,n4,n5,i0,i1,i2,i3,i4,i5,i6,i7,hr1_1,hr1_0,hr1_5,hr1_6,hI1,hN1,hS1]
        all_goals rfl
      · rintro ρ w7 ⟨j2,r7,hj2,hI2,hN2,hS2,hr1_2,hr2_0,hr2_5,hr2_6,hr2_58,hr2_57,hr2_9,hr2_11,ha7⟩
        have hB7 : B ≤ w7.heap.size := Nat.le_trans hB ha7.upd.size
        have hv_7 := ha7.upd.blk_some hv hdv
        have hx1_7 := ha7.upd.blk_some hx1 hnx1
        by_cases hlt2 : j2 < (y1.at 1).l.length
        · obtain ⟨_,b2,o2,x2,ce2,hb2,hok2,hx2,hbl2,hxs2,hxe2,hq2,hRe2⟩ := SlR.get (size := 4) (by decide) hse1_1 hlt2
          subst hb2
          have hcat2 : (y1.at 1).l.take (j2 + 1) = (y1.at 1).l.take j2 ++ [(y1.at 1).l[j2]] := List.take_succ_eq_append_getElem hlt2
          have htl2 := take_flatMap_len (y1.at 1).l (fun x => partS (d + 1) fs_X0 ver false x) (j2 + 1)
          rw [← hXEe1_1,hcat2,List.flatMap_append,List.flatMap_cons,List.flatMap_nil,List.append_nil] at htl2
          have hge2 := (ge1_1.list rfl).2 _ (List.getElem_mem hlt2)
          generalize (y1.at 1).l[j2] = y2 at *
          have hnx2 := hd b2 hbl2 hok2
          obtain ⟨T2,hTT2⟩ : ∃ T,T = ((y1.at 1).l.take j2).flatMap (fun x => partS (d + 1) fs_X0 ver false x) := ⟨_,rfl⟩
          rw [← hTT2] at ha7 htl2
          have hx2_7 := ha7.upd.blk_some hx2 hnx2
          replace hRe2 : RepS true (d + 1) fs_X0 okM w y2 ce2 := Rep1_part.1 hRe2
          have hfe2 : FitW ver (d + 1) fs_X0 y2 := hge2.2 rfl
          obtain ⟨⟨ge2_0,ge2_1,ge2_2,-⟩,hfue2⟩ := hfe2
          replace ge2_0 : hasS fX0_0 ver = true → FitWF (FitW ver d) ver fX0_0 (y2.at 0) := ge2_0
          have hhe2_0 : hasS fX0_0 ver = true := hasS_t (by show (0 : Int) ≤ ver;omega) (by show (-1 : Int) < 0 ∨ ver ≤ (-1 : Int);omega)
          replace ge2_0 := ge2_0 hhe2_0
          replace ge2_1 : hasS fX0_1 ver = true → FitWF (FitW ver d) ver fX0_1 (y2.at 1) := ge2_1
          have hhe2_1 : hasS fX0_1 ver = true := hasS_t (by show (0 : Int) ≤ ver;omega) (by show (-1 : Int) < 0 ∨ ver ≤ (-1 : Int);omega)
          replace ge2_1 := ge2_1 hhe2_1
          replace ge2_2 : hasS fX0_2 ver = true → FitWF (FitW ver d) ver fX0_2 (y2.at 2) := ge2_2
          have hhe2_2 : hasS fX0_2 ver = true := hasS_t (by show (0 : Int) ≤ ver;omega) (by show (-1 : Int) < 0 ∨ ver ≤ (-1 : Int);omega)
          replace ge2_2 := ge2_2 hhe2_2
          obtain ⟨cse2,qe2,hcse2,hLe2,hTe2⟩ := hRe2.inv
          obtain ⟨ce2_0,ee2_0,rfl,he2_0,ce2_1,ee2_1,rfl,he2_1,ce2_2,ee2_2,rfl,he2_2,rfl⟩ := hLe2
          replace he2_0 : RepF (RepS true d) (szS true d) fX0_0 okM w (y2.at 0) ce2_0 := he2_0
          replace he2_1 : RepF (RepS true d) (szS true d) fX0_1 okM w (y2.at 1) ce2_1 := he2_1
          replace he2_2 : RepF (RepS true d) (szS true d) fX0_2 okM w (y2.at 2) ce2_2 := he2_2
          obtain rfl := (RepF_num (by decide)).1 he2_0
          obtain rfl := (RepF_num (by decide)).1 he2_1
          obtain ⟨pe2_2,rfl,hpe2_2⟩ := (RepF_ptr rfl (by decide)).1 he2_2
          obtain ⟨qme2,rfl⟩ := hTe2.shape
          subst hcse2
          have hq2_0 : x2.1[o2 + j2 * 4]? = some (.int .i32 (IntKind.i32.wrap (y2.at 0).n)) := hq2 0 (by decide)
          have hq2_1 : x2.1[o2 + (j2 * 4 + 1)]? = some (.int .i16 (IntKind.i16.wrap (y2.at 1).n)) := hq2 1 (by decide)
          have hq2_2 : x2.1[o2 + (j2 * 4 + 2)]? = some (pe2_2) := hq2 2 (by decide)
          have hq2_3 : x2.1[o2 + (j2 * 4 + 3)]? = some (.map qme2) := hq2 3 (by decide)
          obtain ⟨Xe2_0,hXXe2_0⟩ : ∃ X,X = fixedS (y2.at 0).n 4 := ⟨_,rfl⟩
          obtain ⟨Xe2_1,hXXe2_1⟩ : ∃ X,X = fixedS (y2.at 1).n 2 := ⟨_,rfl⟩
          obtain ⟨Xe2_2,hXXe2_2⟩ : ∃ X,X = if (y2.at 2).null = true then fixedS (-1) 2 else fixedS (y2.at 2).s.length 2 ++ (y2.at 2).s := ⟨_,rfl⟩
          have hPe2 : partS (d + 1) fs_X0 ver false y2 = Xe2_0 ++ (Xe2_1 ++ (Xe2_2 ++ [])) := partS_no (plainL_has (by decide) hhe2_0 ((fieldS_num 3 rfl (by decide)).trans hXXe2_0.symm) (plainL_has (by decide) hhe2_1 ((fieldS_num 2 rfl (by decide)).trans hXXe2_1.symm) (plainL_has (by decide) hhe2_2 ((fieldS_ptr_f ge2_2 rfl (by decide)).trans hXXe2_2.symm) rfl)))
          rw [hPe2] at htl2
          simp only [List.length_append,List.length_nil] at htl2
          repeat ((first | refine qA rfl ?_|refine qB ?_|refine qC rfl ?_|refine qD ?_|refine qE ?_|refine qF ?_|refine qG ?_|refine qH ?_);try simp (maxSteps:=1000000)(disch:=(first|omega|(simp only [qI,qJ,qK]<;>omega)|exact qL _)) only [go_sem,↓reduceIte,n0,reduceCtorEq,n1,n2,n3,n4,n5,i0,i1,i2,i3,i4,i5,i6,i7,hv_7,hx1_7,hx2_7,Int.toNat_natCast,Nat.mul_one,hq1_0,hq1_1,hq1_2,hq2_0,hq2_1,hq2_2,hq2_3,hr1_2,hr2_0,hr2_5,hr2_6,hr2_58,hr2_57,hr2_9,hr2_11,hI2,hN2,hS2])
          refine (AppendInt32_fn _ _ _ ha7.own hB7 _ (by simp only [List.length_append,List.length_nil];omega)).mono ?_
          rintro r8 w8 hc8
          rw [wrap32,← hXXe2_0] at hc8
          have ha8 := ha7.trans hc8
          have hB8 : B ≤ w8.heap.size := Nat.le_trans hB ha8.upd.size
          have hv_8 := ha8.upd.blk_some hv hdv
          have hx1_8 := ha8.upd.blk_some hx1 hnx1
          have hx2_8 := ha8.upd.blk_some hx2 hnx2
          repeat ((first | refine qA rfl ?_|refine qB ?_|refine qC rfl ?_|refine qD ?_|refine qE ?_|refine qF ?_|refine qG ?_|refine qH ?_);try simp (maxSteps:=1000000)(disch:=(first|omega|(simp only [qI,qJ,qK]<;>omega)|exact qL _)) only [go_sem,↓reduceIte,n0,reduceCtorEq,n1,n2,n3,n4,n5,i0,i1,i2,i3,i4,i5,i6,i7,hv_8,hx1_8,hx2_8,Int.toNat_natCast,Nat.mul_one,hq1_0,hq1_1,hq1_2,hq2_0,hq2_1,hq2_2,hq2_3,hr1_2,hr2_0,hr2_5,hr2_6,hr2_58,hr2_57,hr2_9,hr2_11,hI2,hN2,hS2])
          refine (AppendInt16_fn _ _ _ ha8.own hB8 _ (by simp only [List.length_append,List.length_nil];omega)).mono ?_
          rintro r9 w9 hc9
          rw [wrap16,← hXXe2_1] at hc9
          have ha9 := ha8.trans hc9
          have hB9 : B ≤ w9.heap.size := Nat.le_trans hB ha9.upd.size
          have hv_9 := ha9.upd.blk_some hv hdv
          have hx1_9 := ha9.upd.blk_some hx1 hnx1
          have hx2_9 := ha9.upd.blk_some hx2 hnx2
          repeat ((first | refine qA rfl ?_|refine qB ?_|refine qC rfl ?_|refine qD ?_|refine qE ?_|refine qF ?_|refine qG ?_|refine qH ?_);try simp (maxSteps:=1000000)(disch:=(first|omega|(simp only [qI,qJ,qK]<;>omega)|exact qL _)) only [go_sem,↓reduceIte,n0,reduceCtorEq,n1,n2,n3,n4,n5,i0,i1,i2,i3,i4,i5,i6,i7,hv_9,hx1_9,hx2_9,Int.toNat_natCast,Nat.mul_one,hq1_0,hq1_1,hq1_2,hq2_0,hq2_1,hq2_2,hq2_3,hr1_2,hr2_0,hr2_5,hr2_6,hr2_58,hr2_57,hr2_9,hr2_11,hI2,hN2,hS2])
          refine (AppendNullableString_fn (ok := okM) _ _ _ ha9.own hB9 _ (y2.at 2).null (y2.at 2).s (hpe2_2.keep (ha9.upd.keeps hd)) (ge2_2.text (.inl rfl)) (by simp only [List.length_append,List.length_nil];omega)).mono ?_
          rintro r10 w10 hc10
          rw [← hXXe2_2] at hc10
          have ha10 := ha9.trans hc10
          have hB10 : B ≤ w10.heap.size := Nat.le_trans hB ha10.upd.size
          have hv_10 := ha10.upd.blk_some hv hdv
          have hx1_10 := ha10.upd.blk_some hx1 hnx1
          have hx2_10 := ha10.upd.blk_some hx2 hnx2
          repeat ((first | refine qA rfl ?_|refine qB ?_|refine qC rfl ?_|refine qD ?_|refine qE ?_|refine qF ?_|refine qG ?_|refine qH ?_);try simp (maxSteps:=1000000)(disch:=(first|omega|(simp only [qI,qJ,qK]<;>omega)|exact qL _)) only [go_sem,↓reduceIte,n0,reduceCtorEq,n1,n2,n3,n4,n5,i0,i1,i2,i3,i4,i5,i6,i7,hr1_2,hr2_0,hr2_5,hr2_6,hr2_58,hr2_57,hr2_9,hr2_11,hI2,hN2,hS2])
          refine ⟨⟨j2 + 1,_,by omega,rfl,rfl,ha10.eqs ?_⟩,?_⟩
          · rw [hcat2,List.flatMap_append,List.flatMap_cons,List.flatMap_nil,List.append_nil,← hTT2,hPe2];simp only [List.append_assoc,List.append_nil,List.nil_append]
          · simp only [RowKit.intOf];omega
        · have hjl2 : j2 = (y1.at 1).l.length := by omega
          subst hjl2
          rw [List.take_length,← hXEe1_1] at ha7
          repeat ((first | refine qA rfl ?_|refine qB ?_|refine qC rfl ?_|refine qD ?_|refine qE ?_|refine qF ?_|refine qG ?_|refine qH ?_);try simp (maxSteps:=1000000)(disch:=(first|omega|(simp only [qI,qJ,qK]<;>omega)|exact qL _)) only [go_sem,↓reduceIte,n0,reduceCtorEq,n1,n2,n3,n4,n5,i0,i1,i2,i3,i4,i5,i6,i7,hI2,hN2])
          exact ⟨_,hr1_2,hr2_0,hr2_5,hr2_6,hr2_58,hr2_57,hr2_9,hr2_11,ha7⟩
      · rintro ρ w11 ⟨r11,hr1_3,hr3_0,hr3_5,hr3_6,hr3_58,hr3_57,hr3_9,hr3_11,ha11⟩
        have hB11 : B ≤ w11.heap.size := Nat.le_trans hB ha11.upd.size
        have hv_11 := ha11.upd.blk_some hv hdv
        have hx1_11 := ha11.upd.blk_some hx1 hnx1
        repeat ((first | refine qA rfl ?_|refine qB ?_|refine qC rfl ?_|refine qD ?_|refine qE ?_|refine qF ?_|refine qG ?_|refine qH ?_);try simp (maxSteps:=1000000)(disch:=(first|omega|(simp only [qI,qJ,qK]<;>omega)|exact qL _)) only [go_sem,↓reduceIte,n0,reduceCtorEq,n1,n2,n3,n4,n5,i0,i1,i2,i3,i4,i5,i6,i7,hr1_3,hr3_0,hr3_5,hr3_6,hr3_58,hr3_57,hr3_9,hr3_11])
        refine ⟨⟨j1 + 1,_,by omega,rfl,rfl,ha11.eqs ?_⟩,?_⟩
        · rw [hcat1,List.flatMap_append,List.flatMap_cons,List.flatMap_nil,List.append_nil,← hTT1,hPe1];simp only [List.append_assoc,List.append_nil,List.nil_append]
        · simp only [RowKit.intOf];omega
    · have hjl1 : j1 = (t.at 2).l.length := by omega
      subst hjl1
      rw [List.take_length,← hXE_2] at ha4
      repeat ((first | refine qA rfl ?_|refine qB ?_|refine qC rfl ?_|refine qD ?_|refine qE ?_|refine qF ?_|refine qG ?_|refine qH ?_);try simp (maxSteps:=1000000)(disch:=(first|omega|(simp only [qI,qJ,qK]<;>omega)|exact qL _)) only [go_sem,↓reduceIte,n0,reduceCtorEq,n1,n2,n3,n4,n5,i0,i1,i2,i3,i4,i5,i6,i7,hI1,hN1])
      exact ⟨_,hr1_1,hr1_0,hr1_5,hr1_6,ha4⟩
  · rintro ρ w12 ⟨r12,hr1_4,hr4_0,hr4_5,hr4_6,ha12⟩
    have hB12 : B ≤ w12.heap.size := Nat.le_trans hB ha12.upd.size
    have hv_12 := ha12.upd.blk_some hv hdv
    repeat ((first | refine qA rfl ?_|refine qB ?_|refine qC rfl ?_|refine qD ?_|refine qE ?_|refine qF ?_|refine qG ?_|refine qH ?_);try simp (maxSteps:=1000000)(disch:=(first|omega|(simp only [qI,qJ,qK]<;>omega)|exact qL _)) only [go_sem,↓reduceIte,n0,reduceCtorEq,n1,n2,n3,n4,n5,i0,i1,i2,i3,i4,i5,i6,i7,hv_12,hr1_4,hr4_0,hr4_5,hr4_6])
    refine ha12.eqs ?_
    rw [hP];simp only [List.append_assoc,List.append_nil,List.nil_append]
end Ms

namespace Ms
open Go.World renaming size_alloc → qI
open Ms renaming size_wr → qJ,size_drew → qK,not_noB → qL
open W renaming seqR → qA,seq → qB,regR → qC,condK → qD,block → qE,skip → qF,ret → qG,exit → qH
open Nat renaming reduceEqDiff → n0,reduceAdd → n1,reduceMul → n2,reduceSub → n3,reduceLT → n4,reduceLeDiff → n5
open Int renaming reduceEq → i0,reduceLT → i1,reduceLE → i2,reduceNeg → i3,reduceAdd → i4,reduceSub → i5,reduceMul → i6,reduceToNat → i7
set_option maxRecDepth 8000
open Go Go.Proofs Go.Shelf
attribute [local congr] W_congr WPsq_congr WPp_congr optK_congr addrK_congr intK_congr boolK_congr sliceK_congr tupleK_congr funcK_congr Fn_congr rawK_congr takeK_congr stepK_congr convK_congr aggK_congr

set_option maxHeartbeats 4000000 in
theorem appElectLeadersResponse_2 {d B : Nat} {okM : Blocks} {ver : Int} (hlo : 2 ≤ ver) (hhi : ver ≤ 2) (t : Tree) (cells : List Value) (v : Value) (s : List UInt8) (w : World) {vb : Nat} (ho : OwnBy 5 B w v s) (hB : B ≤ w.heap.size) (hvb : blk w vb = some ((.int .i16 ver :: cells).toArray,113,(0,0)))
    (hR : RepS true (d + 3) fs_ElectLeadersResponse okM w t cells) (hfit : FitW ver (d + 3) fs_ElectLeadersResponse t) (hd : ∀ b,b < w.heap.size → okM b → ¬ ownB v b) (hdv : ¬ ownB v vb) (hlen : s.length + (partS (d + 3) fs_ElectLeadersResponse ver true t).length ≤ 2 ^ 41) :
    Fn Tryz.prog 64 #[.pointer (some ⟨vb,0,none⟩),v] w fun r w' => AppR 5 B w v s (partS (d + 3) fs_ElectLeadersResponse ver true t) r w' := by
  obtain ⟨⟨g_0,g_1,g_2,-⟩,hfu⟩ := hfit
  replace g_0 : hasS fElectLeadersResponse_0 ver = true → FitWF (FitW ver (d + 2)) ver fElectLeadersResponse_0 (t.at 0) := g_0
  have hh_0 : hasS fElectLeadersResponse_0 ver = true := hasS_t (by show (0 : Int) ≤ ver;omega) (by show (-1 : Int) < 0 ∨ ver ≤ (-1 : Int);omega)
  replace g_0 := g_0 hh_0
  replace g_1 : hasS fElectLeadersResponse_1 ver = true → FitWF (FitW ver (d + 2)) ver fElectLeadersResponse_1 (t.at 1) := g_1
  have hh_1 : hasS fElectLeadersResponse_1 ver = true := hasS_t (by show (1 : Int) ≤ ver;omega) (by show (-1 : Int) < 0 ∨ ver ≤ (-1 : Int);omega)
  replace g_1 := g_1 hh_1
  replace g_2 : hasS fElectLeadersResponse_2 ver = true → FitWF (FitW ver (d + 2)) ver fElectLeadersResponse_2 (t.at 2) := g_2
  have hh_2 : hasS fElectLeadersResponse_2 ver = true := hasS_t (by show (0 : Int) ≤ ver;omega) (by show (-1 : Int) < 0 ∨ ver ≤ (-1 : Int);omega)
  replace g_2 := g_2 hh_2
  obtain ⟨cs,q,hcs,hL,hT⟩ := hR.inv
  obtain ⟨c_0,e_0,rfl,h_0,c_1,e_1,rfl,h_1,c_2,e_2,rfl,h_2,rfl⟩ := hL
  replace h_0 : RepF (RepS true (d + 2)) (szS true (d + 2)) fElectLeadersResponse_0 okM w (t.at 0) c_0 := h_0
  replace h_1 : RepF (RepS true (d + 2)) (szS true (d + 2)) fElectLeadersResponse_1 okM w (t.at 1) c_1 := h_1
  replace h_2 : RepF (RepS true (d + 2)) (szS true (d + 2)) fElectLeadersResponse_2 okM w (t.at 2) c_2 := h_2
  obtain rfl := (RepF_num (by decide)).1 h_0
  obtain rfl := (RepF_num (by decide)).1 h_1
  obtain ⟨p_2,rfl,hs_2⟩ := RepF_listW g_2 rfl (by decide) h_2
  obtain ⟨ab_2,ac_2,rfl,_⟩ := SlR.shape hs_2
  have hll_2 := (g_2.list rfl).1
  obtain ⟨qm,rfl⟩ := hT.shape
  have hv : blk w vb = some (#[.int .i16 ver,.int .i32 (IntKind.i32.wrap (t.at 0).n),.int .i16 (IntKind.i16.wrap (t.at 1).n),.slice ab_2 (t.at 2).l.length ac_2,.map qm],113,(0,0)) := by rw [hvb,hcs];rfl
  clear hvb hcs
  obtain ⟨X_0,hXX_0⟩ : ∃ X,X = fixedS (t.at 0).n 4 := ⟨_,rfl⟩
  obtain ⟨X_1,hXX_1⟩ : ∃ X,X = fixedS (t.at 1).n 2 := ⟨_,rfl⟩
  obtain ⟨XL_2,hXL_2⟩ : ∃ X,X = uvarS ((t.at 2).l.length + 1) := ⟨_,rfl⟩
  obtain ⟨XE_2,hXE_2⟩ : ∃ X,X = (t.at 2).l.flatMap (fun x => partS (d + 2) fs_X1 ver true x) := ⟨_,rfl⟩
  obtain ⟨XU,hXU⟩ : ∃ X,X = uvarS t.u.length := ⟨_,rfl⟩
  obtain ⟨XT,hXT⟩ : ∃ X,X = t.u.flatMap oneTag := ⟨_,rfl⟩
  have hP : partS (d + 3) fs_ElectLeadersResponse ver true t = (X_0 ++ (X_1 ++ ((XL_2 ++ XE_2) ++ []))) ++ (XU ++ XT) := by rw [hXU,hXT];exact partS_yes rfl hfu (plainL_has (by decide) hh_0 ((fieldS_num 3 rfl (by decide)).trans hXX_0.symm) (plainL_has (by decide) hh_1 ((fieldS_num 2 rfl (by decide)).trans hXX_1.symm) (plainL_has (by decide) hh_2 ((fieldS_list_t (g := (fun x => partS (d + 2) fs_X1 ver true x)) g_2 rfl (by decide) (fun x _ => valueS_part)).trans (by rw [hXL_2,hXE_2])) rfl)))
  rw [hP] at hlen
  simp only [List.length_append,List.length_nil] at hlen
  have hdK : ∀ {r : Value} {w' : World} {add : List UInt8},AppR 5 B w v s add r w' → ∀ b,b < w'.heap.size → OkS okM w.heap.size b → ¬ ownB r b := fun h b _ hk ho => (h.frame b ho).elim (hd b hk.2 hk.1) (fun h => by have := hk.2;omega)
  have ownK : ∀ {r : Value} {w' : World} {add : List UInt8} {b : Nat},AppR 5 B w v s add r w' → b < w.heap.size → ¬ ownB v b → ¬ ownB r b := fun h hb hn ho => (h.frame _ ho).elim hn (fun h => by omega)
  have ha0 : AppR 5 B w v s [] v w := AppR.refl ho
  obtain ⟨w0,hw0⟩ : ∃ w0,w0 = w := ⟨_,rfl⟩
  have hB0 := hB
  have hv_0 := hv
  refine fn_of_W Tryz.func64 rfl Tryz.results64 Tryz.ntmps64 rfl ?_
  repeat ((first | refine qA rfl ?_|refine qB ?_|refine qC rfl ?_|refine qD ?_|refine qE ?_|refine qF ?_|refine qG ?_|refine qH ?_);try simp (maxSteps:=1000000)(disch:=(first|omega|(simp only [qI,qJ,qK]<;>omega)|exact qL _)) only [go_sem,↓reduceIte,n0,reduceCtorEq,n1,n2,n3,n4,n5,i0,i1,i2,i3,i4,i5,i6,i7,hv_0])
  refine (AppendInt32_fn _ _ _ ha0.own hB0 _ (by simp only [List.length_append,List.length_nil];omega)).mono ?_
  rintro r1 w1 hc1
  rw [wrap32,← hXX_0] at hc1
  have ha1 := ha0.trans hc1
  have hB1 : B ≤ w1.heap.size := Nat.le_trans hB ha1.upd.size
  have hv_1 := ha1.upd.blk_some hv hdv
  repeat ((first | refine qA rfl ?_|refine qB ?_|refine qC rfl ?_|refine qD ?_|refine qE ?_|refine qF ?_|refine qG ?_|refine qH ?_);try simp (maxSteps:=1000000)(disch:=(first|omega|(simp only [qI,qJ,qK]<;>omega)|exact qL _)) only [go_sem,↓reduceIte,n0,reduceCtorEq,n1,n2,n3,n4,n5,i0,i1,i2,i3,i4,i5,i6,i7,hv_1])
  refine (AppendInt16_fn _ _ _ ha1.own hB1 _ (by simp only [List.length_append,List.length_nil];omega)).mono ?_
  rintro r2 w2 hc2
  rw [wrap16,← hXX_1] at hc2
  have ha2 := ha1.trans hc2
  have hB2 : B ≤ w2.heap.size := Nat.le_trans hB ha2.upd.size
  have hv_2 := ha2.upd.blk_some hv hdv
  repeat ((first | refine qA rfl ?_|refine qB ?_|refine qC rfl ?_|refine qD ?_|refine qE ?_|refine qF ?_|refine qG ?_|refine qH ?_);try simp (maxSteps:=1000000)(disch:=(first|omega|(simp only [qI,qJ,qK]<;>omega)|exact qL _)) only [go_sem,↓reduceIte,n0,reduceCtorEq,n1,n2,n3,n4,n5,i0,i1,i2,i3,i4,i5,i6,i7,hv_2])
  refine (AppendCompactArrayLen_fn _ _ _ ha2.own hB2 (t.at 2).l.length hll_2 (by simp only [List.length_append,List.length_nil];omega)).mono ?_
  rintro r3 w3 hc3
  rw [← hXL_2] at hc3
  have ha3 := ha2.trans hc3
  have hB3 : B ≤ w3.heap.size := Nat.le_trans hB ha3.upd.size
  have hv_3 := ha3.upd.blk_some hv hdv
  repeat ((first | refine qA rfl ?_|refine qB ?_|refine qC rfl ?_|refine qD ?_|refine qE ?_|refine qF ?_|refine qG ?_|refine qH ?_);try simp (maxSteps:=1000000)(disch:=(first|omega|(simp only [qI,qJ,qK]<;>omega)|exact qL _)) only [go_sem,↓reduceIte,n0,reduceCtorEq,n1,n2,n3,n4,n5,i0,i1,i2,i3,i4,i5,i6,i7,hv_3])
  have hadd1 := ha3
  refine W.exitJ 0 (fun ρ w' => ∃ r,ρ 1 = r ∧ ρ 0 = .pointer (some ⟨vb,0,none⟩) ∧ ρ 5 = .int .i16 ver ∧ ρ 6 = .bool true ∧ AppR 5 B w v s (([] ++ X_0 ++ X_1 ++ XL_2) ++ XE_2) r w')
    (W.loop (fun ρ w' => ∃ (j : Nat) (r : Value),j ≤ (t.at 2).l.length ∧ ρ 58 = .int .i64 j ∧ ρ 57 = .int .i64 (t.at 2).l.length ∧ ρ 9 = .slice ab_2 (t.at 2).l.length ac_2 ∧ ρ 1 = r ∧ ρ 0 = .pointer (some ⟨vb,0,none⟩) ∧ ρ 5 = .int .i16 ver ∧ ρ 6 = .bool true ∧ AppR 5 B w v s (([] ++ X_0 ++ X_1 ++ XL_2) ++ ((t.at 2).l.take j).flatMap (fun x => partS (d + 2) fs_X1 ver true x)) r w')
      (fun ρ _ => (t.at 2).l.length - (RowKit.intOf (ρ 58)).toNat) ?_ ?_) ?_
  · refine ⟨0,_,Nat.zero_le _,?_,?_,?_,?_,?_,?_,?_,ha3.eqs (by rw [List.take_zero,List.flatMap_nil,List.append_nil])⟩ <;> simp (maxSteps:=1000000)(disch:=(first|omega|(simp only [qI,qJ,qK]<;>omega)|exact qL _)) only [go_sem,↓reduceIte,n0,reduceCtorEq,n1,n2,n3,n4,n5,i0,i1,i2,i3,i4,i5,i6,i7]
    all_goals rfl
  · rintro ρ w4 ⟨j1,r4,hj1,hI1,hN1,hS1,hr1_1,hr1_0,hr1_5,hr1_6,ha4⟩
    have hB4 : B ≤ w4.heap.size := Nat.le_trans hB ha4.upd.size
    have hv_4 := ha4.upd.blk_some hv hdv
    by_cases hlt1 : j1 < (t.at 2).l.length
    · obtain ⟨_,b1,o1,x1,ce1,hb1,hok1,hx1,hbl1,hxs1,hxe1,hq1,hRe1⟩ := SlR.get (size := 3) (by decide) hs_2 hlt1
      subst hb1
      have hcat1 : (t.at 2).l.take (j1 + 1) = (t.at 2).l.take j1 ++ [(t.at 2).l[j1]] := List.take_succ_eq_append_getElem hlt1
      have htl1 := take_flatMap_len (t.at 2).l (fun x => partS (d + 2) fs_X1 ver true x) (j1 + 1)
      rw [← hXE_2,hcat1,List.flatMap_append,List.flatMap_cons,List.flatMap_nil,List.append_nil] at htl1
      have hge1 := (g_2.list rfl).2 _ (List.getElem_mem hlt1)
      generalize (t.at 2).l[j1] = y1 at *
      have hnx1 := hd b1 hbl1 hok1
      obtain ⟨T1,hTT1⟩ : ∃ T,T = ((t.at 2).l.take j1).flatMap (fun x => partS (d + 2) fs_X1 ver true x) := ⟨_,rfl⟩
      rw [← hTT1] at ha4 htl1
      have hx1_4 := ha4.upd.blk_some hx1 hnx1
      replace hRe1 : RepS true (d + 2) fs_X1 okM w y1 ce1 := Rep1_part.1 hRe1
      have hfe1 : FitW ver (d + 2) fs_X1 y1 := hge1.2 rfl
      obtain ⟨⟨ge1_0,ge1_1,-⟩,hfue1⟩ := hfe1
      replace ge1_0 : hasS fX1_0 ver = true → FitWF (FitW ver (d + 1)) ver fX1_0 (y1.at 0) := ge1_0
      have hhe1_0 : hasS fX1_0 ver = true := hasS_t (by show (0 : Int) ≤ ver;omega) (by show (-1 : Int) < 0 ∨ ver ≤ (-1 : Int);omega)
      replace ge1_0 := ge1_0 hhe1_0
      replace ge1_1 : hasS fX1_1 ver = true → FitWF (FitW ver (d + 1)) ver fX1_1 (y1.at 1) := ge1_1
      have hhe1_1 : hasS fX1_1 ver = true := hasS_t (by show (0 : Int) ≤ ver;omega) (by show (-1 : Int) < 0 ∨ ver ≤ (-1 : Int);omega)
      replace ge1_1 := ge1_1 hhe1_1
      obtain ⟨cse1,qe1,hcse1,hLe1,hTe1⟩ := hRe1.inv
      obtain ⟨ce1_0,ee1_0,rfl,he1_0,ce1_1,ee1_1,rfl,he1_1,rfl⟩ := hLe1
      replace he1_0 : RepF (RepS true (d + 1)) (szS true (d + 1)) fX1_0 okM w (y1.at 0) ce1_0 := he1_0
      replace he1_1 : RepF (RepS true (d + 1)) (szS true (d + 1)) fX1_1 okM w (y1.at 1) ce1_1 := he1_1
      obtain rfl := (RepF_text rfl (by decide)).1 he1_0
      obtain ⟨pe1_1,rfl,hse1_1⟩ := RepF_listW ge1_1 rfl (by decide) he1_1
      obtain ⟨abe1_1,ace1_1,rfl,_⟩ := SlR.shape hse1_1
      have hlle1_1 := (ge1_1.list rfl).1
      obtain ⟨qme1,rfl⟩ := hTe1.shape
      subst hcse1
      have hq1_0 : x1.1[o1 + j1 * 3]? = some (strV (y1.at 0).s) := hq1 0 (by decide)
      have hq1_1 : x1.1[o1 + (j1 * 3 + 1)]? = some (.slice abe1_1 (y1.at 1).l.length ace1_1) := hq1 1 (by decide)
      have hq1_2 : x1.1[o1 + (j1 * 3 + 2)]? = some (.map qme1) := hq1 2 (by decide)
      obtain ⟨Xe1_0,hXXe1_0⟩ : ∃ X,X = uvarS ((y1.at 0).s.length + 1) ++ (y1.at 0).s := ⟨_,rfl⟩
      obtain ⟨XLe1_1,hXLe1_1⟩ : ∃ X,X = uvarS ((y1.at 1).l.length + 1) := ⟨_,rfl⟩
      obtain ⟨XEe1_1,hXEe1_1⟩ : ∃ X,X = (y1.at 1).l.flatMap (fun x => partS (d + 1) fs_X0 ver true x) := ⟨_,rfl⟩
      obtain ⟨XUe1,hXUe1⟩ : ∃ X,X = uvarS y1.u.length := ⟨_,rfl⟩
      obtain ⟨XTe1,hXTe1⟩ : ∃ X,X = y1.u.flatMap oneTag := ⟨_,rfl⟩
      have hPe1 : partS (d + 2) fs_X1 ver true y1 = (Xe1_0 ++ ((XLe1_1 ++ XEe1_1) ++ [])) ++ (XUe1 ++ XTe1) := by rw [hXUe1,hXTe1];exact partS_yes rfl hfue1 (plainL_has (by decide) hhe1_0 ((fieldS_text_t ge1_0 rfl (by decide)).trans hXXe1_0.symm) (plainL_has (by decide) hhe1_1 ((fieldS_list_t (g := (fun x => partS (d + 1) fs_X0 ver true x)) ge1_1 rfl (by decide) (fun x _ => valueS_part)).trans (by rw [hXLe1_1,hXEe1_1])) rfl))
      rw [hPe1] at htl1
      simp only [List.length_append,List.length_nil] at htl1
      repeat ((first | refine qA rfl ?_|refine qB ?_|refine qC rfl ?_|refine qD ?_|refine qE ?_|refine qF ?_|refine qG ?_|refine qH ?_);try simp (maxSteps:=1000000)(disch:=(first|omega|(simp only [qI,qJ,qK]<;>omega)|exact qL _)) only [go_sem,↓reduceIte,n0,reduceCtorEq,n1,n2,n3,n4,n5,i0,i1,i2,i3,i4,i5,i6,i7,hv_4,hx1_4,Int.toNat_natCast,Nat.mul_one,hq1_0,hq1_1,hq1_2,hr1_1,hr1_0,hr1_5,hr1_6,hI1,hN1,hS1])
      refine (AppendCompactString_fn _ _ _ ha4.own hB4 (y1.at 0).s (ge1_0.text (.inl rfl)) (by simp only [List.length_append,List.length_nil];omega)).mono ?_
      rintro r5 w5 hc5
      rw [← hXXe1_0] at hc5
      have ha5 := ha4.trans hc5
      have hB5 : B ≤ w5.heap.size := Nat.le_trans hB ha5.upd.size
      have hv_5 := ha5.upd.blk_some hv hdv
      have hx1_5 := ha5.upd.blk_some hx1 hnx1
      repeat ((first | refine qA rfl ?_|refine qB ?_|refine qC rfl ?_|refine qD ?_|refine qE ?_|refine qF ?_|refine qG ?_|refine qH ?_);try simp (maxSteps:=1000000)(disch:=(first|omega|(simp only [qI,qJ,qK]<;>omega)|exact qL _)) only [go_sem,↓reduceIte,n0,reduceCtorEq,n1,n2,n3,n4,n5,i0,i1,i2,i3,i4,i5,i6,i7,hv_5,hx1_5,Int.toNat_natCast,Nat.mul_one,hq1_0,hq1_1,hq1_2,hr1_1,hr1_0,hr1_5,hr1_6,hI1,hN1,hS1])
      refine (AppendCompactArrayLen_fn _ _ _ ha5.own hB5 (y1.at 1).l.length hlle1_1 (by simp only [List.length_append,List.length_nil];omega)).mono ?_
      rintro r6 w6 hc6
      rw [← hXLe1_1] at hc6
      have ha6 := ha5.trans hc6
      have hB6 : B ≤ w6.heap.size := Nat.le_trans hB ha6.upd.size
      have hv_6 := ha6.upd.blk_some hv hdv
      have hx1_6 := ha6.upd.blk_some hx1 hnx1
      repeat ((first | refine qA rfl ?_|refine qB ?_|refine qC rfl ?_|refine qD ?_|refine qE ?_|refine qF ?_|refine qG ?_|refine qH ?_);try simp (maxSteps:=1000000)(disch:=(first|omega|(simp only [qI,qJ,qK]<;>omega)|exact qL _)) only [go_sem,↓reduceIte,n0,reduceCtorEq,n1,n2,n3,n4,n5,i0,i1,i2,i3,i4,i5,i6,i7,hv_6,hx1_6,Int.toNat_natCast,Nat.mul_one,hq1_0,hq1_1,hq1_2,hr1_1,hr1_0,hr1_5,hr1_6,hI1,hN1,hS1])
      have hadd2 := ha6
      refine W.exitJ 2 (fun ρ w' => ∃ r,ρ 1 = r ∧ ρ 0 = .pointer (some ⟨vb,0,none⟩) ∧ ρ 5 = .int .i16 ver ∧ ρ 6 = .bool true ∧ ρ 58 = .int .i64 j1 ∧ ρ 57 = .int .i64 (t.at 2).l.length ∧ ρ 9 = .slice (some ⟨b1,o1,none⟩) (t.at 2).l.length ac_2 ∧ ρ 11 = .pointer (some ⟨b1,o1 + j1 * 3,none⟩) ∧ AppR 5 B w v s (([] ++ X_0 ++ X_1 ++ XL_2 ++ T1 ++ Xe1_0 ++ XLe1_1) ++ XEe1_1) r w')
        (W.loop (fun ρ w' => ∃ (j : Nat) (r : Value),j ≤ (y1.at 1).l.length ∧ ρ 90 = .int .i64 j ∧ ρ 89 = .int .i64 (y1.at 1).l.length ∧ ρ 13 = .slice abe1_1 (y1.at 1).l.length ace1_1 ∧ ρ 1 = r ∧ ρ 0 = .pointer (some ⟨vb,0,none⟩) ∧ ρ 5 = .int .i16 ver ∧ ρ 6 = .bool true ∧ ρ 58 = .int .i64 j1 ∧ ρ 57 = .int .i64 (t.at 2).l.length ∧ ρ 9 = .slice (some ⟨b1,o1,none⟩) (t.at 2).l.length ac_2 ∧ ρ 11 = .pointer (some ⟨b1,o1 + j1 * 3,none⟩) ∧ AppR 5 B w v s (([] ++ X_0 ++ X_1 ++ XL_2 ++ T1 ++ Xe1_0 ++ XLe1_1) ++ ((y1.at 1).l.take j).flatMap (fun x => partS (d + 1) fs_X0 ver true x)) r w')
          (fun ρ _ => (y1.at 1).l.length - (RowKit.intOf (ρ 90)).toNat) ?_ ?_) ?_
      · refine ⟨0,_,Nat.zero_le _,?_,?_,?_,?_,?_,?_,?_,?_,?_,?_,?_,ha6.eqs (by rw [List.take_zero,List.flatMap_nil,List.append_nil])⟩ <;> simp (maxSteps:=1000000)(disch:=(first|omega|(simp only [qI,qJ,qK]<;>omega)|exact qL _)) only [go_sem,↓reduceIte,n0,reduceCtorEq,n1,n2,n3,n4,n5,i0,i1,i2,i3,i4,i5,i6,i7,hr1_1,hr1_0,hr1_5,hr1_6,hI1,hN1,hS1]
        all_goals rfl
      · rintro ρ w7 ⟨j2,r7,hj2,hI2,hN2,hS2,hr1_2,hr2_0,hr2_5,hr2_6,hr2_58,hr2_57,hr2_9,hr2_11,ha7⟩
        have hB7 : B ≤ w7.heap.size := Nat.le_trans hB ha7.upd.size
        have hv_7 := ha7.upd.blk_some hv hdv
        have hx1_7 := ha7.upd.blk_some hx1 hnx1
        by_cases hlt2 : j2 < (y1.at 1).l.length
        · obtain ⟨_,b2,o2,x2,ce2,hb2,hok2,hx2,hbl2,hxs2,hxe2,hq2,hRe2⟩ := SlR.get (size := 4) (by decide) hse1_1 hlt2
          subst hb2
          have hcat2 : (y1.at 1).l.take (j2 + 1) = (y1.at 1).l.take j2 ++ [(y1.at 1).l[j2]] := List.take_succ_eq_append_getElem hlt2
          have htl2 := take_flatMap_len (y1.at 1).l (fun x => partS (d + 1) fs_X0 ver true x) (j2 + 1)
          rw [← hXEe1_1,hcat2,List.flatMap_append,List.flatMap_cons,List.flatMap_nil,List.append_nil] at htl2
          have hge2 := (ge1_1.list rfl).2 _ (List.getElem_mem hlt2)
          generalize (y1.at 1).l[j2] = y2 at *
          have hnx2 := hd b2 hbl2 hok2
          obtain ⟨T2,hTT2⟩ : ∃ T,T = ((y1.at 1).l.take j2).flatMap (fun x => partS (d + 1) fs_X0 ver true x) := ⟨_,rfl⟩
          rw [← hTT2] at ha7 htl2
          have hx2_7 := ha7.upd.blk_some hx2 hnx2
          replace hRe2 : RepS true (d + 1) fs_X0 okM w y2 ce2 := Rep1_part.1 hRe2
          have hfe2 : FitW ver (d + 1) fs_X0 y2 := hge2.2 rfl
          obtain ⟨⟨ge2_0,ge2_1,ge2_2,-⟩,hfue2⟩ := hfe2
          replace ge2_0 : hasS fX0_0 ver = true → FitWF (FitW ver d) ver fX0_0 (y2.at 0) := ge2_0
          have hhe2_0 : hasS fX0_0 ver = true := hasS_t (by show (0 : Int) ≤ ver;omega) (by show (-1 : Int) < 0 ∨ ver ≤ (-1 : Int);omega)
          replace ge2_0 := ge2_0 hhe2_0
          replace ge2_1 : hasS fX0_1 ver = true → FitWF (FitW ver d) ver fX0_1 (y2.at 1) := ge2_1
          have hhe2_1 : hasS fX0_1 ver = true := hasS_t (by show (0 : Int) ≤ ver;omega) (by show (-1 : Int) < 0 ∨ ver ≤ (-1 : Int);omega)
          replace ge2_1 := ge2_1 hhe2_1
          replace ge2_2 : hasS fX0_2 ver = true → FitWF (FitW ver d) ver fX0_2 (y2.at 2) := ge2_2
          have hhe2_2 : hasS fX0_2 ver = true := hasS_t (by show (0 : Int) ≤ ver;omega) (by show (-1 : Int) < 0 ∨ ver ≤ (-1 : Int);omega)
          replace ge2_2 := ge2_2 hhe2_2
          obtain ⟨cse2,qe2,hcse2,hLe2,hTe2⟩ := hRe2.inv
          obtain ⟨ce2_0,ee2_0,rfl,he2_0,ce2_1,ee2_1,rfl,he2_1,ce2_2,ee2_2,rfl,he2_2,rfl⟩ := hLe2
          replace he2_0 : RepF (RepS true d) (szS true d) fX0_0 okM w (y2.at 0) ce2_0 := he2_0
          replace he2_1 : RepF (RepS true d) (szS true d) fX0_1 okM w (y2.at 1) ce2_1 := he2_1
          replace he2_2 : RepF (RepS true d) (szS true d) fX0_2 okM w (y2.at 2) ce2_2 := he2_2
          obtain rfl := (RepF_num (by decide)).1 he2_0
          obtain rfl := (RepF_num (by decide)).1 he2_1
          obtain ⟨pe2_2,rfl,hpe2_2⟩ := (RepF_ptr rfl (by decide)).1 he2_2
          obtain ⟨qme2,rfl⟩ := hTe2.shape
          subst hcse2
          have hq2_0 : x2.1[o2 + j2 * 4]? = some (.int .i32 (IntKind.i32.wrap (y2.at 0).n)) := hq2 0 (by decide)
          have hq2_1 : x2.1[o2 + (j2 * 4 + 1)]? = some (.int .i16 (IntKind.i16.wrap (y2.at 1).n)) := hq2 1 (by decide)
          have hq2_2 : x2.1[o2 + (j2 * 4 + 2)]? = some (pe2_2) := hq2 2 (by decide)
          have hq2_3 : x2.1[o2 + (j2 * 4 + 3)]? = some (.map qme2) := hq2 3 (by decide)
          obtain ⟨Xe2_0,hXXe2_0⟩ : ∃ X,X = fixedS (y2.at 0).n 4 := ⟨_,rfl⟩
          obtain ⟨Xe2_1,hXXe2_1⟩ : ∃ X,X = fixedS (y2.at 1).n 2 := ⟨_,rfl⟩
          obtain ⟨Xe2_2,hXXe2_2⟩ : ∃ X,X = if (y2.at 2).null = true then [0] else uvarS ((y2.at 2).s.length + 1) ++ (y2.at 2).s := ⟨_,rfl⟩
          obtain ⟨XUe2,hXUe2⟩ : ∃ X,X = uvarS y2.u.length := ⟨_,rfl⟩
          obtain ⟨XTe2,hXTe2⟩ : ∃ X,X = y2.u.flatMap oneTag := ⟨_,rfl⟩
          have hPe2 : partS (d + 1) fs_X0 ver true y2 = (Xe2_0 ++ (Xe2_1 ++ (Xe2_2 ++ []))) ++ (XUe2 ++ XTe2) := by rw [hXUe2,hXTe2];exact partS_yes rfl hfue2 (plainL_has (by decide) hhe2_0 ((fieldS_num 3 rfl (by decide)).trans hXXe2_0.symm) (plainL_has (by decide) hhe2_1 ((fieldS_num 2 rfl (by decide)).trans hXXe2_1.symm) (plainL_has (by decide) hhe2_2 ((fieldS_ptr_t ge2_2 rfl (by decide)).trans hXXe2_2.symm) rfl)))
          rw [hPe2] at htl2
          simp only [List.length_append,List.length_nil] at htl2
          repeat ((first | refine qA rfl ?_|refine qB ?_|refine qC rfl ?_|refine qD ?_|refine qE ?_|refine qF ?_|refine qG ?_|refine qH ?_);try simp (maxSteps:=1000000)(disch:=(first|omega|(simp only [qI,qJ,qK]<;>omega)|exact qL _)) only [go_sem,↓reduceIte,n0,reduceCtorEq,n1,n2,n3,n4,n5,i0,i1,i2,i3,i4,i5,i6,i7,hv_7,hx1_7,hx2_7,Int.toNat_natCast,Nat.mul_one,hq1_0,hq1_1,hq1_2,hq2_0,hq2_1,hq2_2,hq2_3,hr1_2,hr2_0,hr2_5,hr2_6,hr2_58,hr2_57,hr2_9,hr2_11,hI2,hN2,hS2])
          refine (AppendInt32_fn _ _ _ ha7.own hB7 _ (by simp only [List.length_append,List.length_nil];omega)).mono ?_
          rintro r8 w8 hc8
          rw [wrap32,← hXXe2_0] at hc8
          have ha8 := ha7.trans hc8
          have hB8 : B ≤ w8.heap.size := Nat.le_trans hB ha8.upd.size
          have hv_8 := ha8.upd.blk_some hv hdv
          have hx1_8 := ha8.upd.blk_some hx1 hnx1
          have hx2_8 := ha8.upd.blk_some hx2 hnx2
          repeat ((first | refine qA rfl ?_|refine qB ?_|refine qC rfl ?_|refine qD ?_|refine qE ?_|refine qF ?_|refine qG ?_|refine qH ?_);try simp (maxSteps:=1000000)(disch:=(first|omega|(simp only [qI,qJ,qK]<;>omega)|exact qL _)) only [go_sem,↓reduceIte,n0,reduceCtorEq,n1,n2,n3,n4,n5,i0,i1,i2,i3,i4,i5,i6,i7,hv_8,hx1_8,hx2_8,Int.toNat_natCast,Nat.mul_one,hq1_0,hq1_1,hq1_2,hq2_0,hq2_1,hq2_2,hq2_3,hr1_2,hr2_0,hr2_5,hr2_6,hr2_58,hr2_57,hr2_9,hr2_11,hI2,hN2,hS2])
          refine (AppendInt16_fn _ _ _ ha8.own hB8 _ (by simp only [List.length_append,List.length_nil];omega)).mono ?_
          rintro r9 w9 hc9
          rw [wrap16,← hXXe2_1] at hc9
          have ha9 := ha8.trans hc9
          have hB9 : B ≤ w9.heap.size := Nat.le_trans hB ha9.upd.size
          have hv_9 := ha9.upd.blk_some hv hdv
          have hx1_9 := ha9.upd.blk_some hx1 hnx1
          have hx2_9 := ha9.upd.blk_some hx2 hnx2
          repeat ((first | refine qA rfl ?_|refine qB ?_|refine qC rfl ?_|refine qD ?_|refine qE ?_|refine qF ?_|refine qG ?_|refine qH ?_);try simp (maxSteps:=1000000)(disch:=(first|omega|(simp only [qI,qJ,qK]<;>omega)|exact qL _)) only [go_sem,↓reduceIte,n0,reduceCtorEq,n1,n2,n3,n4,n5,i0,i1,i2,i3,i4,i5,i6,i7,hv_9,hx1_9,hx2_9,Int.toNat_natCast,Nat.mul_one,hq1_0,hq1_1,hq1_2,hq2_0,hq2_1,hq2_2,hq2_3,hr1_2,hr2_0,hr2_5,hr2_6,hr2_58,hr2_57,hr2_9,hr2_11,hI2,hN2,hS2])
          refine (AppendCompactNullableString_fn (ok := okM) _ _ _ ha9.own hB9 _ (y2.at 2).null (y2.at 2).s (hpe2_2.keep (ha9.upd.keeps hd)) (ge2_2.text (.inl rfl)) (by simp only [List.length_append,List.length_nil];omega)).mono ?_
          rintro r10 w10 hc10
          rw [← hXXe2_2] at hc10
          have ha10 := ha9.trans hc10
          have hB10 : B ≤ w10.heap.size := Nat.le_trans hB ha10.upd.size
          have hv_10 := ha10.upd.blk_some hv hdv
          have hx1_10 := ha10.upd.blk_some hx1 hnx1
          have hx2_10 := ha10.upd.blk_some hx2 hnx2
          repeat ((first | refine qA rfl ?_|refine qB ?_|refine qC rfl ?_|refine qD ?_|refine qE ?_|refine qF ?_|refine qG ?_|refine qH ?_);try simp (maxSteps:=1000000)(disch:=(first|omega|(simp only [qI,qJ,qK]<;>omega)|exact qL _)) only [go_sem,↓reduceIte,n0,reduceCtorEq,n1,n2,n3,n4,n5,i0,i1,i2,i3,i4,i5,i6,i7,hv_10,hx1_10,hx2_10,Int.toNat_natCast,Nat.mul_one,hq1_0,hq1_1,hq1_2,hq2_0,hq2_1,hq2_2,hq2_3,hr1_2,hr2_0,hr2_5,hr2_6,hr2_58,hr2_57,hr2_9,hr2_11,hI2,hN2,hS2])
          have hTk10 : TagsM (OkS okM w.heap.size) w10 (.map qme2) y2.u := (hTe2.weaken fun b h1 h2 => ⟨h2,h1⟩).keep (ha10.upd.keeps fun b hb hk => hd b hb hk.1)
          refine (TagsLen_fn (ok := OkS okM w.heap.size) w10 hx2_10 (to := o2 + (j2 * 4 + 3)) hq2_3 hTk10).mono ?_
          rintro _ w10' ⟨rfl,rfl⟩
          have hul10 : y2.u.length ≤ 32767 := hfue2.1
          have ew10 : IntKind.u32.wrap (y2.u.length : Int) = y2.u.length := u32_wrap (by omega)
          have ez10 : IntKind.u32.wrap (0 + (y2.u.length : Int)) = y2.u.length := by rw [Int.zero_add,u32_wrap (by omega)]
          simp (maxSteps:=1000000)(disch:=(first|omega|(simp only [qI,qJ,qK]<;>omega)|exact qL _)) only [go_sem,↓reduceIte,n0,reduceCtorEq,n1,n2,n3,n4,n5,i0,i1,i2,i3,i4,i5,i6,i7,hv_10,hx1_10,hx2_10,Int.toNat_natCast,Nat.mul_one,hq1_0,hq1_1,hq1_2,hq2_0,hq2_1,hq2_2,hq2_3,hr1_2,hr2_0,hr2_5,hr2_6,hr2_58,hr2_57,hr2_9,hr2_11,hI2,hN2,hS2,ew10,ez10]
          refine (AppendUvarint_fn _ _ _ ha10.own hB10 y2.u.length (by omega) (by simp only [List.length_append,List.length_nil];omega)).mono ?_
          rintro r11 w11 hc11
          rw [← hXUe2] at hc11
          have ha11 := ha10.trans hc11
          have hB11 : B ≤ w11.heap.size := Nat.le_trans hB ha11.upd.size
          have hv_11 := ha11.upd.blk_some hv hdv
          have hx1_11 := ha11.upd.blk_some hx1 hnx1
          have hx2_11 := ha11.upd.blk_some hx2 hnx2
          repeat ((first | refine qA rfl ?_|refine qB ?_|refine qC rfl ?_|refine qD ?_|refine qE ?_|refine qF ?_|refine qG ?_|refine qH ?_);try simp (maxSteps:=1000000)(disch:=(first|omega|(simp only [qI,qJ,qK]<;>omega)|exact qL _)) only [go_sem,↓reduceIte,n0,reduceCtorEq,n1,n2,n3,n4,n5,i0,i1,i2,i3,i4,i5,i6,i7,hv_11,hx1_11,hx2_11,Int.toNat_natCast,Nat.mul_one,hq1_0,hq1_1,hq1_2,hq2_0,hq2_1,hq2_2,hq2_3,hr1_2,hr2_0,hr2_5,hr2_6,hr2_58,hr2_57,hr2_9,hr2_11,hI2,hN2,hS2])
          have hTk11 : TagsM (OkS okM w.heap.size) w11 (.map qme2) y2.u := (hTe2.weaken fun b h1 h2 => ⟨h2,h1⟩).keep (ha11.upd.keeps fun b hb hk => hd b hb hk.1)
          refine (AppendEach_fn (ok := OkS okM w.heap.size) _ _ _ ha11.own hB11 hx2_11 (to := o2 + (j2 * 4 + 3)) hq2_3 hTk11 (rising_keys hfue2) hfue2.1 (tags_small hfue2 hTk11) (hdK ha11) (ownK ha11 (blk_lt hx2) hnx2) (by simp only [List.length_append,List.length_nil];omega)).mono ?_
          rintro r12 w12 hc12
          rw [← hXTe2] at hc12
          have ha12 := ha11.trans hc12
          have hB12 : B ≤ w12.heap.size := Nat.le_trans hB ha12.upd.size
          have hv_12 := ha12.upd.blk_some hv hdv
          have hx1_12 := ha12.upd.blk_some hx1 hnx1
          have hx2_12 := ha12.upd.blk_some hx2 hnx2
          repeat ((first | refine qA rfl ?_|refine qB ?_|refine qC rfl ?_|refine qD ?_|refine qE ?_|refine qF ?_|refine qG ?_|refine qH ?_);try simp (maxSteps:=1000000)(disch:=(first|omega|(simp only [qI,qJ,qK]<;>omega)|exact qL _)) only [go_sem,↓reduceIte,n0,reduceCtorEq,n1,n2,n3,n4,n5,i0,i1,i2,i3,i4,i5,i6,i7,hr1_2,hr2_0,hr2_5,hr2_6,hr2_58,hr2_57,hr2_9,hr2_11,hI2,hN2,hS2])
          refine ⟨⟨j2 + 1,_,by omega,rfl,rfl,ha12.eqs ?_⟩,?_⟩
          · rw [hcat2,List.flatMap_append,List.flatMap_cons,List.flatMap_nil,List.append_nil,← hTT2,hPe2];simp only [List.append_assoc,List.append_nil,List.nil_append]
          · simp only [RowKit.intOf];omega
        · have hjl2 : j2 = (y1.at 1).l.length := by omega
          subst hjl2
          rw [List.take_length,← hXEe1_1] at ha7
          repeat ((first | refine qA rfl ?_|refine qB ?_|refine qC rfl ?_|refine qD ?_|refine qE ?_|refine qF ?_|refine qG ?_|refine qH ?_);try simp (maxSteps:=1000000)(disch:=(first|omega|(simp only [qI,qJ,qK]<;>omega)|exact qL _)) only [go_sem,↓reduceIte,n0,reduceCtorEq,n1,n2,n3,n4,n5,i0,i1,i2,i3,i4,i5,i6,i7,hI2,hN2])
          exact ⟨_,hr1_2,hr2_0,hr2_5,hr2_6,hr2_58,hr2_57,hr2_9,hr2_11,ha7⟩
      · rintro ρ w13 ⟨r13,hr1_3,hr3_0,hr3_5,hr3_6,hr3_58,hr3_57,hr3_9,hr3_11,ha13⟩
        have hB13 : B ≤ w13.heap.size := Nat.le_trans hB ha13.upd.size
        have hv_13 := ha13.upd.blk_some hv hdv
        have hx1_13 := ha13.upd.blk_some hx1 hnx1
        repeat ((first | refine qA rfl ?_|refine qB ?_|refine qC rfl ?_|refine qD ?_|refine qE ?_|refine qF ?_|refine qG ?_|refine qH ?_);try simp (maxSteps:=1000000)(disch:=(first|omega|(simp only [qI,qJ,qK]<;>omega)|exact qL _)) only [go_sem,↓reduceIte,n0,reduceCtorEq,n1,n2,n3,n4,n5,i0,i1,i2,i3,i4,i5,i6,i7,hv_13,hx1_13,Int.toNat_natCast,Nat.mul_one,hq1_0,hq1_1,hq1_2,hr1_3,hr3_0,hr3_5,hr3_6,hr3_58,hr3_57,hr3_9,hr3_11])
        have hTk13 : TagsM (OkS okM w.heap.size) w13 (.map qme1) y1.u := (hTe1.weaken fun b h1 h2 => ⟨h2,h1⟩).keep (ha13.upd.keeps fun b hb hk => hd b hb hk.1)
        refine (TagsLen_fn (ok := OkS okM w.heap.size) w13 hx1_13 (to := o1 + (j1 * 3 + 2)) hq1_2 hTk13).mono ?_
        rintro _ w13' ⟨rfl,rfl⟩
        have hul13 : y1.u.length ≤ 32767 := hfue1.1
        have ew13 : IntKind.u32.wrap (y1.u.length : Int) = y1.u.length := u32_wrap (by omega)
        have ez13 : IntKind.u32.wrap (0 + (y1.u.length : Int)) = y1.u.length := by rw [Int.zero_add,u32_wrap (by omega)]
        simp (maxSteps:=1000000)(disch:=(first|omega|(simp only [qI,qJ,qK]<;>omega)|exact qL _)) only [go_sem,↓reduceIte,n0,reduceCtorEq,n1,n2,n3,n4,n5,i0,i1,i2,i3,i4,i5,i6,i7,hv_13,hx1_13,Int.toNat_natCast,Nat.mul_one,hq1_0,hq1_1,hq1_2,hr1_3,hr3_0,hr3_5,hr3_6,hr3_58,hr3_57,hr3_9,hr3_11,ew13,ez13]
        refine (AppendUvarint_fn _ _ _ ha13.own hB13 y1.u.length (by omega) (by simp only [List.length_append,List.length_nil];omega)).mono ?_
        rintro r14 w14 hc14
        rw [← hXUe1] at hc14
        have ha14 := ha13.trans hc14
        have hB14 : B ≤ w14.heap.size := Nat.le_trans hB ha14.upd.size
        have hv_14 := ha14.upd.blk_some hv hdv
        have hx1_14 := ha14.upd.blk_some hx1 hnx1
        repeat ((first | refine qA rfl ?_|refine qB ?_|refine qC rfl ?_|refine qD ?_|refine qE ?_|refine qF ?_|refine qG ?_|refine qH ?_);try simp (maxSteps:=1000000)(disch:=(first|omega|(simp only [qI,qJ,qK]<;>omega)|exact qL _)) only [go_sem,↓reduceIte,n0,reduceCtorEq,n1,n2,n3,n4,n5,i0,i1,i2,i3,i4,i5,i6,i7,hv_14,hx1_14,Int.toNat_natCast,Nat.mul_one,hq1_0,hq1_1,hq1_2,hr1_3,hr3_0,hr3_5,hr3_6,hr3_58,hr3_57,hr3_9,hr3_11])
        have hTk14 : TagsM (OkS okM w.heap.size) w14 (.map qme1) y1.u := (hTe1.weaken fun b h1 h2 => ⟨h2,h1⟩).keep (ha14.upd.keeps fun b hb hk => hd b hb hk.1)
        refine (AppendEach_fn (ok := OkS okM w.heap.size) _ _ _ ha14.own hB14 hx1_14 (to := o1 + (j1 * 3 + 2)) hq1_2 hTk14 (rising_keys hfue1) hfue1.1 (tags_small hfue1 hTk14) (hdK ha14) (ownK ha14 (blk_lt hx1) hnx1) (by simp only [List.length_append,List.length_nil];omega)).mono ?_
        rintro r15 w15 hc15
        rw [← hXTe1] at hc15
        have ha15 := ha14.trans hc15
        have hB15 : B ≤ w15.heap.size := Nat.le_trans hB ha15.upd.size
        have hv_15 := ha15.upd.blk_some hv hdv
        have hx1_15 := ha15.upd.blk_some hx1 hnx1
        repeat ((first | refine qA rfl ?_|refine qB ?_|refine qC rfl ?_|refine qD ?_|refine qE ?_|refine qF ?_|refine qG ?_|refine qH ?_);try simp (maxSteps:=1000000)(disch:=(first|omega|(simp only [qI,qJ,qK]<;>omega)|exact qL _)) only [go_sem,↓reduceIte,n0,reduceCtorEq,n1,n2,n3,n4,n5,i0,i1,i2,i3,i4,i5,i6,i7,hr1_3,hr3_0,hr3_5,hr3_6,hr3_58,hr3_57,hr3_9,hr3_11])
        refine ⟨⟨j1 + 1,_,by omega,rfl,rfl,ha15.eqs ?_⟩,?_⟩
        · rw [hcat1,List.flatMap_append,List.flatMap_cons,List.flatMap_nil,List.append_nil,← hTT1,hPe1];simp only [List.append_assoc,List.append_nil,List.nil_append]
        · simp only [RowKit.intOf];omega
    · have hjl1 : j1 = (t.at 2).l.length := by omega
      subst hjl1
      rw [List.take_length,← hXE_2] at ha4
      repeat ((first | refine qA rfl ?_|refine qB ?_|refine qC rfl ?_|refine qD ?_|refine qE ?_|refine qF ?_|refine qG ?_|refine qH ?_);try simp (maxSteps:=1000000)(disch:=(first|omega|(simp only [qI,qJ,qK]<;>omega)|exact qL _)) only [go_sem,↓reduceIte,n0,reduceCtorEq,n1,n2,n3,n4,n5,i0,i1,i2,i3,i4,i5,i6,i7,hI1,hN1])
      exact ⟨_,hr1_1,hr1_0,hr1_5,hr1_6,ha4⟩
  · rintro ρ w16 ⟨r16,hr1_4,hr4_0,hr4_5,hr4_6,ha16⟩
    have hB16 : B ≤ w16.heap.size := Nat.le_trans hB ha16.upd.size
    have hv_16 := ha16.upd.blk_some hv hdv
    repeat ((first | refine qA rfl ?_|refine qB ?_|refine qC rfl ?_|refine qD ?_|refine qE ?_|refine qF ?_|refine qG ?_|refine qH ?_);try simp (maxSteps:=1000000)(disch:=(first|omega|(simp only [qI,qJ,qK]<;>omega)|exact qL _)) only [go_sem,↓reduceIte,n0,reduceCtorEq,n1,n2,n3,n4,n5,i0,i1,i2,i3,i4,i5,i6,i7,hv_16,hr1_4,hr4_0,hr4_5,hr4_6])
    have hTk16 : TagsM (OkS okM w.heap.size) w16 (.map qm) t.u := (hT.weaken fun b h1 h2 => ⟨h2,h1⟩).keep (ha16.upd.keeps fun b hb hk => hd b hb hk.1)
    refine (TagsLen_fn (ok := OkS okM w.heap.size) w16 hv_16 (to := 4) (show (#[.int .i16 ver,.int .i32 (IntKind.i32.wrap (t.at 0).n),.int .i16 (IntKind.i16.wrap (t.at 1).n),.slice ab_2 (t.at 2).l.length ac_2,.map qm] : Array Value)[4]? = some (.map qm) from rfl) hTk16).mono ?_
    rintro _ w16' ⟨rfl,rfl⟩
    have hul16 : t.u.length ≤ 32767 := hfu.1
    have ew16 : IntKind.u32.wrap (t.u.length : Int) = t.u.length := u32_wrap (by omega)
    have ez16 : IntKind.u32.wrap (0 + (t.u.length : Int)) = t.u.length := by rw [Int.zero_add,u32_wrap (by omega)]
    simp (maxSteps:=1000000)(disch:=(first|omega|(simp only [qI,qJ,qK]<;>omega)|exact qL _)) only [go_sem,↓reduceIte,n0,reduceCtorEq,n1,n2,n3,n4,n5,i0,i1,i2,i3,i4,i5,i6,i7,hv_16,hr1_4,hr4_0,hr4_5,hr4_6,ew16,ez16]
    refine (AppendUvarint_fn _ _ _ ha16.own hB16 t.u.length (by omega) (by simp only [List.length_append,List.length_nil];omega)).mono ?_
    rintro r17 w17 hc17
    rw [← hXU] at hc17
    have ha17 := ha16.trans hc17
    have hB17 : B ≤ w17.heap.size := Nat.le_trans hB ha17.upd.size
    have hv_17 := ha17.upd.blk_some hv hdv
    repeat ((first | refine qA rfl ?_|refine qB ?_|refine qC rfl ?_|refine qD ?_|refine qE ?_|refine qF ?_|refine qG ?_|refine qH ?_);try simp (maxSteps:=1000000)(disch:=(first|omega|(simp only [qI,qJ,qK]<;>omega)|exact qL _)) only [go_sem,↓reduceIte,n0,reduceCtorEq,n1,n2,n3,n4,n5,i0,i1,i2,i3,i4,i5,i6,i7,hv_17,hr1_4,hr4_0,hr4_5,hr4_6])
    have hTk17 : TagsM (OkS okM w.heap.size) w17 (.map qm) t.u := (hT.weaken fun b h1 h2 => ⟨h2,h1⟩).keep (ha17.upd.keeps fun b hb hk => hd b hb hk.1)
    refine (AppendEach_fn (ok := OkS okM w.heap.size) _ _ _ ha17.own hB17 hv_17 (to := 4) (show (#[.int .i16 ver,.int .i32 (IntKind.i32.wrap (t.at 0).n),.int .i16 (IntKind.i16.wrap (t.at 1).n),.slice ab_2 (t.at 2).l.length ac_2,.map qm] : Array Value)[4]? = some (.map qm) from rfl) hTk17 (rising_keys hfu) hfu.1 (tags_small hfu hTk17) (hdK ha17) (ownK ha17 (blk_lt hv) hdv) (by simp only [List.length_append,List.length_nil];omega)).mono ?_
    rintro r18 w18 hc18
    rw [← hXT] at hc18
    have ha18 := ha17.trans hc18
    have hB18 : B ≤ w18.heap.size := Nat.le_trans hB ha18.upd.size
    have hv_18 := ha18.upd.blk_some hv hdv
    repeat ((first | refine qA rfl ?_|refine qB ?_|refine qC rfl ?_|refine qD ?_|refine qE ?_|refine qF ?_|refine qG ?_|refine qH ?_);try simp (maxSteps:=1000000)(disch:=(first|omega|(simp only [qI,qJ,qK]<;>omega)|exact qL _)) only [go_sem,↓reduceIte,n0,reduceCtorEq,n1,n2,n3,n4,n5,i0,i1,i2,i3,i4,i5,i6,i7,hv_18,hr1_4,hr4_0,hr4_5,hr4_6])
    refine ha18.eqs ?_
    rw [hP];simp only [List.append_assoc,List.append_nil,List.nil_append]
end Ms

namespace Ms
open Go.World renaming size_alloc → qI
open Ms renaming size_wr → qJ,size_drew → qK,not_noB → qL
open W renaming seqR → qA,seq → qB,regR → qC,condK → qD,block → qE,skip → qF,ret → qG,exit → qH
open Nat renaming reduceEqDiff → n0,reduceAdd → n1,reduceMul → n2,reduceSub → n3,reduceLT → n4,reduceLeDiff → n5
open Int renaming reduceEq → i0,reduceLT → i1,reduceLE → i2,reduceNeg → i3,reduceAdd → i4,reduceSub → i5,reduceMul → i6,reduceToNat → i7
set_option maxRecDepth 8000
open Go Go.Proofs Go.Shelf
attribute [local congr] W_congr WPsq_congr WPp_congr optK_congr addrK_congr intK_congr boolK_congr sliceK_congr tupleK_congr funcK_congr Fn_congr rawK_congr takeK_congr stepK_congr convK_congr aggK_congr

set_option maxHeartbeats 2000000 in
theorem BehindElectLeadersResponse_fn {d : Nat} {ok : Blocks} {ev : Value} (ver : Nat) (hv : ver ≤ 2) (t : Tree) (dst b : Value) (D : List UInt8) (w : World) (hd : BytesV ok w dst D) (hb : BytesV ok w b (partS (d + 3) fs_ElectLeadersResponse ver (flexB 2 ver) t)) (hG : Glo ev w) (hrd : rdP (d + 3) ver (flexB 2 ver) fs_ElectLeadersResponse (some (partS (d + 3) fs_ElectLeadersResponse ver (flexB 2 ver) t)) = (cnP (d + 3) ver (flexB 2 ver) fs_ElectLeadersResponse t,some []))
    (hcn : partS (d + 3) fs_ElectLeadersResponse ver (flexB 2 ver) (cnP (d + 3) ver (flexB 2 ver) fs_ElectLeadersResponse t) = (partS (d + 3) fs_ElectLeadersResponse ver (flexB 2 ver) t) ∧ FitW ver (d + 3) fs_ElectLeadersResponse (cnP (d + 3) ver (flexB 2 ver) fs_ElectLeadersResponse t)) (hD : D.length ≤ 1000) (hl : (partS (d + 3) fs_ElectLeadersResponse ver (flexB 2 ver) t).length ≤ 2 ^ 40) :
    Fn Tryz.prog 28 #[.int .i64 ver,dst,b] w fun r w' => (∃ v,r = .tuple #[v,.bool true] ∧ OwnBy 5 w.heap.size w' v (D ++ (partS (d + 3) fs_ElectLeadersResponse ver (flexB 2 ver) t))) ∧ Ext w w' := by
  obtain ⟨da,dc,rfl,_⟩ := hd.shape
  obtain ⟨ba,bc,rfl,_⟩ := hb.shape
  have hgl := hG.lt
  have ew : IntKind.i16.wrap (ver : Int) = ver := i16_wrap (by omega)
  refine fn_of_W Tryz.func28 rfl Tryz.results28 Tryz.ntmps28 rfl ?_
  repeat ((first | refine qA rfl ?_|refine qB ?_|refine qC rfl ?_|refine qD ?_|refine qE ?_|refine qF ?_|refine qG ?_|refine qH ?_);try simp (maxSteps:=1000000)(disch:=(first|omega|(simp only [qI,qJ,qK]<;>omega)|exact qL _)) only [go_sem,↓reduceIte,n0,reduceCtorEq,n1,n2,n3,n4,n5,i0,i1,i2,i3,i4,i5,i6,i7,ew])
  refine (NewPtrElectLeadersResponse_fn w).mono ?_
  rintro _ w1 ⟨rfl,hb1,hE1⟩
  have hz1 := blk_lt hb1
  repeat ((first | refine qA rfl ?_|refine qB ?_|refine qC rfl ?_|refine qD ?_|refine qE ?_|refine qF ?_|refine qG ?_|refine qH ?_);try simp (maxSteps:=1000000)(disch:=(first|omega|(simp only [qI,qJ,qK]<;>omega)|exact qL _)) only [go_sem,↓reduceIte,n0,reduceCtorEq,n1,n2,n3,n4,n5,i0,i1,i2,i3,i4,i5,i6,i7,ew])
  refine (SetVersionElectLeadersResponse_fn w1 (vb := w.heap.size) ver hb1).mono ?_
  rintro _ w2 ⟨hb2,hU2⟩
  have hz2 := hU2.size
  have hE2 : Ext w w2 := hE1.more hU2 fun b hb h => by omega
  repeat ((first | refine qA rfl ?_|refine qB ?_|refine qC rfl ?_|refine qD ?_|refine qE ?_|refine qF ?_|refine qG ?_|refine qH ?_);try simp (maxSteps:=1000000)(disch:=(first|omega|(simp only [qI,qJ,qK]<;>omega)|exact qL _)) only [go_sem,↓reduceIte,n0,reduceCtorEq,n1,n2,n3,n4,n5,i0,i1,i2,i3,i4,i5,i6,i7,ew])
  refine wp_copyN ap_22_22 (ok := ok) (s := (partS (d + 3) fs_ElectLeadersResponse ver (flexB 2 ver) t)) (v := .slice ba _ bc) (by first | rfl | simp (maxSteps:=1000000)(disch:=(first|omega|(simp only [qI,qJ,qK]<;>omega)|exact qL _)) only [go_sem,↓reduceIte,n0,reduceCtorEq,n1,n2,n3,n4,n5,i0,i1,i2,i3,i4,i5,i6,i7]) (by first | rfl | simp (maxSteps:=1000000)(disch:=(first|omega|(simp only [qI,qJ,qK]<;>omega)|exact qL _)) only [go_sem,↓reduceIte,n0,reduceCtorEq,n1,n2,n3,n4,n5,i0,i1,i2,i3,i4,i5,i6,i7]) (hb.keep (hE2.keeps _)) (by omega) ?_
  intro v3 w3 ho3 hE3 hf3
  have hz3 := hE3.size
  have hb3 := hE3.blk_some hb2 id
  have hG3 : Glo ev w3 := hG.updS (hE2.trans hE3) id id
  obtain ⟨a3,c3,rfl,_⟩ := ho3.shape
  simp (maxSteps:=1000000)(disch:=(first|omega|(simp only [qI,qJ,qK]<;>omega)|exact qL _)) only [go_sem,↓reduceIte,n0,reduceCtorEq,n1,n2,n3,n4,n5,i0,i1,i2,i3,i4,i5,i6,i7]
  refine (ReadFromElectLeadersResponse_fn (d := d) (ok := fun b => b < w3.heap.size ∧ b ≠ w.heap.size) (ev := ev) (ver := ver) (by omega) (by omega) w3 _ _ hb3 ((Own.bytes ho3 hf3).weaken fun b hb hk => ⟨hb,by omega⟩) (fun b hb => hb) hG3 ⟨by omega,by omega⟩).mono ?_
  rintro r4 w4 ⟨_,h4,hU4⟩
  rw [hrd] at h4
  obtain ⟨rfl,cells,hb4,hR4⟩ := h4 (by simp)
  have hz4 := hU4.size
  have hE4 : Ext w w4 := (hE2.trans hE3).more hU4 fun b hb h => by omega
  have hR4' : RepS true (d + 3) fs_ElectLeadersResponse (fun b => b < w4.heap.size) w4 (cnP (d + 3) ver (flexB 2 ver) fs_ElectLeadersResponse t) cells := (RepS_lay true (d + 3) fs_ElectLeadersResponse).weaken hR4 fun b hb _ => hb
  try simp (maxSteps:=1000000)(disch:=(first|omega|(simp only [qI,qJ,qK]<;>omega)|exact qL _)) only [go_sem,↓reduceIte,n0,reduceCtorEq,n1,n2,n3,n4,n5,i0,i1,i2,i3,i4,i5,i6,i7]
  repeat ((first | refine qA rfl ?_|refine qB ?_|refine qC rfl ?_|refine qD ?_|refine qE ?_|refine qF ?_|refine qG ?_|refine qH ?_);try simp (maxSteps:=1000000)(disch:=(first|omega|(simp only [qI,qJ,qK]<;>omega)|exact qL _)) only [go_sem,↓reduceIte,n0,reduceCtorEq,n1,n2,n3,n4,n5,i0,i1,i2,i3,i4,i5,i6,i7])
  refine wp_copyN ap_22_22 (ok := ok) (s := D) (v := .slice da _ dc) (by first | rfl | simp (maxSteps:=1000000)(disch:=(first|omega|(simp only [qI,qJ,qK]<;>omega)|exact qL _)) only [go_sem,↓reduceIte,n0,reduceCtorEq,n1,n2,n3,n4,n5,i0,i1,i2,i3,i4,i5,i6,i7]) (by first | rfl | simp (maxSteps:=1000000)(disch:=(first|omega|(simp only [qI,qJ,qK]<;>omega)|exact qL _)) only [go_sem,↓reduceIte,n0,reduceCtorEq,n1,n2,n3,n4,n5,i0,i1,i2,i3,i4,i5,i6,i7]) (hd.keep (hE4.keeps _)) (by omega) ?_
  intro v5 w5 ho5 hE5 hf5
  have hz5 := hE5.size
  have hb5 := hE5.blk_some hb4 id
  have hR5 := (RepS_lay true (d + 3) fs_ElectLeadersResponse).keep hR4' (hE5.keeps _)
  obtain ⟨a5,c5,rfl,_⟩ := ho5.shape
  simp (maxSteps:=1000000)(disch:=(first|omega|(simp only [qI,qJ,qK]<;>omega)|exact qL _)) only [go_sem,↓reduceIte,n0,reduceCtorEq,n1,n2,n3,n4,n5,i0,i1,i2,i3,i4,i5,i6,i7]
  have hcl : (0 ≤ (ver : Int) ∧ (ver : Int) ≤ 0) ∨ (1 ≤ (ver : Int) ∧ (ver : Int) ≤ 1) ∨ (2 ≤ (ver : Int) ∧ (ver : Int) ≤ 2) := by omega
  rcases hcl with ⟨h1,h2⟩ | ⟨h1,h2⟩ | ⟨h1,h2⟩
  · have hfl : flexB 2 ver = false := by simp only [flexB,Bool.and_eq_false_iff,decide_eq_false_iff_not];omega
    rw [hfl] at hcn hR5 hl ⊢
    refine (appElectLeadersResponse_0 (d := d) (B := w.heap.size) h1 h2 _ cells _ D w5 (Own.mono ho5 (by omega)) (by omega) hb5 hR5 hcn.2 (fun b _ h1 h2 => by have := hf5 b h2;omega) (fun h => by have := hf5 _ h;omega) (by rw [hcn.1];omega)).mono ?_
    rintro r6 w6 h6
    repeat ((first | refine qA rfl ?_|refine qB ?_|refine qC rfl ?_|refine qD ?_|refine qE ?_|refine qF ?_|refine qG ?_|refine qH ?_);try simp (maxSteps:=1000000)(disch:=(first|omega|(simp only [qI,qJ,qK]<;>omega)|exact qL _)) only [go_sem,↓reduceIte,n0,reduceCtorEq,n1,n2,n3,n4,n5,i0,i1,i2,i3,i4,i5,i6,i7])
    refine ⟨by have := h6.own;rw [hcn.1] at this;exact ⟨_,rfl,this⟩,(hE4.trans hE5).more h6.upd fun b hb h => by have := hf5 b h;omega⟩
  · have hfl : flexB 2 ver = false := by simp only [flexB,Bool.and_eq_false_iff,decide_eq_false_iff_not];omega
    rw [hfl] at hcn hR5 hl ⊢
    refine (appElectLeadersResponse_1 (d := d) (B := w.heap.size) h1 h2 _ cells _ D w5 (Own.mono ho5 (by omega)) (by omega) hb5 hR5 hcn.2 (fun b _ h1 h2 => by have := hf5 b h2;omega) (fun h => by have := hf5 _ h;omega) (by rw [hcn.1];omega)).mono ?_
    rintro r6 w6 h6
    repeat ((first | refine qA rfl ?_|refine qB ?_|refine qC rfl ?_|refine qD ?_|refine qE ?_|refine qF ?_|refine qG ?_|refine qH ?_);try simp (maxSteps:=1000000)(disch:=(first|omega|(simp only [qI,qJ,qK]<;>omega)|exact qL _)) only [go_sem,↓reduceIte,n0,reduceCtorEq,n1,n2,n3,n4,n5,i0,i1,i2,i3,i4,i5,i6,i7])
    refine ⟨by have := h6.own;rw [hcn.1] at this;exact ⟨_,rfl,this⟩,(hE4.trans hE5).more h6.upd fun b hb h => by have := hf5 b h;omega⟩
  · have hfl : flexB 2 ver = true := by simp only [flexB,Bool.and_eq_true,decide_eq_true_eq];omega
    rw [hfl] at hcn hR5 hl ⊢
    refine (appElectLeadersResponse_2 (d := d) (B := w.heap.size) h1 h2 _ cells _ D w5 (Own.mono ho5 (by omega)) (by omega) hb5 hR5 hcn.2 (fun b _ h1 h2 => by have := hf5 b h2;omega) (fun h => by have := hf5 _ h;omega) (by rw [hcn.1];omega)).mono ?_
    rintro r6 w6 h6
    repeat ((first | refine qA rfl ?_|refine qB ?_|refine qC rfl ?_|refine qD ?_|refine qE ?_|refine qF ?_|refine qG ?_|refine qH ?_);try simp (maxSteps:=1000000)(disch:=(first|omega|(simp only [qI,qJ,qK]<;>omega)|exact qL _)) only [go_sem,↓reduceIte,n0,reduceCtorEq,n1,n2,n3,n4,n5,i0,i1,i2,i3,i4,i5,i6,i7])
    refine ⟨by have := h6.own;rw [hcn.1] at this;exact ⟨_,rfl,this⟩,(hE4.trans hE5).more h6.upd fun b hb h => by have := hf5 b h;omega⟩

end Ms

