/- A part of the proof: see the last text. -/
import Derived.Test.YtanfebeopfbamaaGreatDoorC05
import Derived.Test.YtanfebeopfbamaaGreatDoorC07
import Derived.Test.YtanfebeopfbamaaGreatDoorC10
import Derived.Test.YtanfebeopfbamaaGreatDoorDescribeClientQuotasResponseP0
import Derived.Test.YtanfebeopfbamaaGreatDoorDescribeClientQuotasResponseP1
import Derived.Test.YtanfebeopfbamaaGreatDoorDescribeClientQuotasResponseP2
set_option linter.unusedSimpArgs false
set_option linter.unusedVariables false
namespace Ms
open Go.World renaming size_alloc → qI
open Ms renaming size_wr → qJ,size_drew → qK,not_noB → qL
open W renaming seqR → qA,seq → qB,regR → qC,condK → qD,block → qE,skip → qF,ret → qG,exit → qH
open Nat renaming reduceEqDiff → n0,reduceAdd → n1,reduceMul → n2,reduceSub → n3,reduceLT → n4,reduceLeDiff → n5
open Int renaming reduceEq → i0,reduceLT → i1,reduceLE → i2,reduceNeg → i3,reduceAdd → i4,reduceSub → i5,reduceMul → i6,reduceToNat → i7
set_option maxRecDepth 8000
open Go Go.Proofs Go.Shelf
attribute [local congr] W_congr WPsq_congr WPp_congr optK_congr addrK_congr intK_congr boolK_congr sliceK_congr tupleK_congr funcK_congr Fn_congr rawK_congr takeK_congr stepK_congr convK_congr aggK_congr

theorem ReadFromQ_fn {d : Nat} {ok : Blocks} {ver : Int} {ev : Value} (hlo : 0 ≤ ver) (hhi : ver ≤ 1) (w : World) {vb : Nat} (src : Value) (s : List UInt8) (hv : blk w vb = some (#[.int .i16 ver,.int .i32 0,.int .i16 0,.pointer none,.slice none 0 0,.map none],95,(0,0))) (hsrc : BytesV ok w src s) (hok0 : ∀ b,ok b → b < w.heap.size ∧ b ≠ vb) (hG : Glo ev w) (hgv : ¬ 2 = vb ∧ ¬ 0 = vb) :
    Fn Tryz.prog 27 #[.pointer (some ⟨vb,0,none⟩),src] w (ReadQ 95 ok ver (d + 3) fs_Q vb w (rdP (d + 3) ver (flexB 1 ver) fs_Q (some s)) ev) := by
  obtain ⟨sa,sc,rfl,_⟩ := hsrc.shape
  refine fn_of_W Tryz.func27 rfl Tryz.results27 Tryz.ntmps27 rfl ?_
  repeat ((first | refine qA rfl ?_|apply qB|refine qC rfl ?_|apply qD|apply qE|apply qF|apply qG|apply qH);try simp (maxSteps:=1000000)(disch:=(first|omega|(simp only [qI,qJ,qK]<;>omega)|exact qL _)) only [go_sem,↓reduceIte,n0,reduceCtorEq,n1,n2,n3,n4,n5,i0,i1,i2,i3,i4,i5,i6,i7])
  have hcl : (0 ≤ ver ∧ ver ≤ 0) ∨ (1 ≤ ver ∧ ver ≤ 1) := by omega
  rcases hcl with ⟨h1,h2⟩ | ⟨h1,h2⟩
  · have hfl : flexB 1 ver = false := by simp only [flexB,Bool.and_eq_false_iff,decide_eq_false_iff_not];omega
    rw [hfl]
    refine (readQ_0 (d := d) h1 h2 w _ s hv hsrc hok0 hG hgv).mono ?_
    rintro r5 w5 h5
    repeat ((first | refine qA rfl ?_|apply qB|refine qC rfl ?_|apply qD|apply qE|apply qF|apply qG|apply qH);try simp (maxSteps:=1000000)(disch:=(first|omega|(simp only [qI,qJ,qK]<;>omega)|exact qL _)) only [go_sem,↓reduceIte,n0,reduceCtorEq,n1,n2,n3,n4,n5,i0,i1,i2,i3,i4,i5,i6,i7])
    all_goals exact h5
  · have hfl : flexB 1 ver = true := by simp only [flexB,Bool.and_eq_true,decide_eq_true_eq];omega
    rw [hfl]
    refine (readQ_1 (d := d) h1 h2 w _ s hv hsrc hok0 hG hgv).mono ?_
    rintro r5 w5 h5
    repeat ((first | refine qA rfl ?_|apply qB|refine qC rfl ?_|apply qD|apply qE|apply qF|apply qG|apply qH);try simp (maxSteps:=1000000)(disch:=(first|omega|(simp only [qI,qJ,qK]<;>omega)|exact qL _)) only [go_sem,↓reduceIte,n0,reduceCtorEq,n1,n2,n3,n4,n5,i0,i1,i2,i3,i4,i5,i6,i7])
    all_goals exact h5


set_option maxHeartbeats 4000000 in
theorem appQ_0 {d B : Nat} {okM : Blocks} {ver : Int} (hlo : 0 ≤ ver) (hhi : ver ≤ 0) (t : Tree) (cells : List Value) (v : Value) (s : List UInt8) (w : World) {vb : Nat} (ho : OwnBy 5 B w v s) (hB : B ≤ w.heap.size) (hvb : blk w vb = some ((.int .i16 ver :: cells).toArray,95,(0,0)))
    (hR : RepS true (d + 3) fs_Q okM w t cells) (hfit : FitW ver (d + 3) fs_Q t) (hd : ∀ b,b < w.heap.size → okM b → ¬ ownB v b) (hdv : ¬ ownB v vb) (hlen : s.length + (partS (d + 3) fs_Q ver false t).length ≤ 2 ^ 41) :
    Fn Tryz.prog 28 #[.pointer (some ⟨vb,0,none⟩),v] w fun r w' => AppR 5 B w v s (partS (d + 3) fs_Q ver false t) r w' := by
  obtain ⟨⟨g_0,g_1,g_2,g_3,-⟩,hfu⟩ := hfit
  replace g_0 : hasS fQ_0 ver = true → FitWF (FitW ver (d + 2)) ver fQ_0 (t.at 0) := g_0
  have hh_0 : hasS fQ_0 ver = true := hasS_t (by show (0 : Int) ≤ ver;omega) (by show (-1 : Int) < 0 ∨ ver ≤ (-1 : Int);omega)
  replace g_0 := g_0 hh_0
  replace g_1 : hasS fQ_1 ver = true → FitWF (FitW ver (d + 2)) ver fQ_1 (t.at 1) := g_1
  have hh_1 : hasS fQ_1 ver = true := hasS_t (by show (0 : Int) ≤ ver;omega) (by show (-1 : Int) < 0 ∨ ver ≤ (-1 : Int);omega)
  replace g_1 := g_1 hh_1
  replace g_2 : hasS fQ_2 ver = true → FitWF (FitW ver (d + 2)) ver fQ_2 (t.at 2) := g_2
  have hh_2 : hasS fQ_2 ver = true := hasS_t (by show (0 : Int) ≤ ver;omega) (by show (-1 : Int) < 0 ∨ ver ≤ (-1 : Int);omega)
  replace g_2 := g_2 hh_2
  replace g_3 : hasS fQ_3 ver = true → FitWF (FitW ver (d + 2)) ver fQ_3 (t.at 3) := g_3
  have hh_3 : hasS fQ_3 ver = true := hasS_t (by show (0 : Int) ≤ ver;omega) (by show (-1 : Int) < 0 ∨ ver ≤ (-1 : Int);omega)
  replace g_3 := g_3 hh_3
  obtain ⟨cs,q,hcs,hL,hT⟩ := hR.inv
  obtain ⟨c_0,e_0,rfl,h_0,c_1,e_1,rfl,h_1,c_2,e_2,rfl,h_2,c_3,e_3,rfl,h_3,rfl⟩ := hL
  replace h_0 : RepF (RepS true (d + 2)) (szS true (d + 2)) fQ_0 okM w (t.at 0) c_0 := h_0
  replace h_1 : RepF (RepS true (d + 2)) (szS true (d + 2)) fQ_1 okM w (t.at 1) c_1 := h_1
  replace h_2 : RepF (RepS true (d + 2)) (szS true (d + 2)) fQ_2 okM w (t.at 2) c_2 := h_2
  replace h_3 : RepF (RepS true (d + 2)) (szS true (d + 2)) fQ_3 okM w (t.at 3) c_3 := h_3
  obtain rfl := (RepF_num (by decide)).1 h_0
  obtain rfl := (RepF_num (by decide)).1 h_1
  obtain ⟨p_2,rfl,hp_2⟩ := (RepF_ptr rfl (by decide)).1 h_2
  obtain ⟨p_3,L_3,rfl,hLL_3,hs_3,hnn_3⟩ := RepF_listN g_3 rfl (by decide) h_3
  obtain ⟨ab_3,ac_3,rfl,_⟩ := SlR.shape hs_3
  have hni_3 := hnn_3 _ _ _ rfl
  have hgl_3 := g_3.listL rfl hLL_3
  have hll_3 := hgl_3.1
  obtain ⟨qm,rfl⟩ := hT.shape
  have hv : blk w vb = some (#[.int .i16 ver,.int .i32 (IntKind.i32.wrap (t.at 0).n),.int .i16 (IntKind.i16.wrap (t.at 1).n),p_2,.slice ab_3 L_3.length ac_3,.map qm],95,(0,0)) := by rw [hvb,hcs];rfl
  clear hvb hcs
  obtain ⟨X_0,hXX_0⟩ : ∃ X,X = fixedS (t.at 0).n 4 := ⟨_,rfl⟩
  obtain ⟨X_1,hXX_1⟩ : ∃ X,X = fixedS (t.at 1).n 2 := ⟨_,rfl⟩
  obtain ⟨X_2,hXX_2⟩ : ∃ X,X = if (t.at 2).null = true then fixedS (-1) 2 else fixedS (t.at 2).s.length 2 ++ (t.at 2).s := ⟨_,rfl⟩
  obtain ⟨XL_3,hXL_3⟩ : ∃ X,X = countedS false (nullS fQ_3 ver (t.at 3)) L_3.length 4 := ⟨_,rfl⟩
  obtain ⟨XE_3,hXE_3⟩ : ∃ X,X = L_3.flatMap (fun x => partS (d + 2) fs_X2 ver false x) := ⟨_,rfl⟩
  have hP : partS (d + 3) fs_Q ver false t = X_0 ++ (X_1 ++ (X_2 ++ ((XL_3 ++ XE_3) ++ []))) := partS_no (plainL_has (by decide) hh_0 ((fieldS_num 3 rfl (by decide)).trans hXX_0.symm) (plainL_has (by decide) hh_1 ((fieldS_num 2 rfl (by decide)).trans hXX_1.symm) (plainL_has (by decide) hh_2 ((fieldS_ptr_f g_2 rfl (by decide)).trans hXX_2.symm) (plainL_has (by decide) hh_3 ((fieldS_listN (g := (fun x => partS (d + 2) fs_X2 ver false x)) g_3 rfl hLL_3 (fun x _ => valueS_part)).trans (by rw [hXL_3,hXE_3])) rfl))))
  rw [hP] at hlen
  simp only [List.length_append,List.length_nil] at hlen
  have hdK : ∀ {r : Value} {w' : World} {add : List UInt8},AppR 5 B w v s add r w' → ∀ b,b < w'.heap.size → OkS okM w.heap.size b → ¬ ownB r b := fun h b _ hk ho => (h.frame b ho).elim (hd b hk.2 hk.1) (fun h => by have := hk.2;omega)
  have ownK : ∀ {r : Value} {w' : World} {add : List UInt8} {b : Nat},AppR 5 B w v s add r w' → b < w.heap.size → ¬ ownB v b → ¬ ownB r b := fun h hb hn ho => (h.frame _ ho).elim hn (fun h => by omega)
  have ha0 : AppR 5 B w v s [] v w := AppR.refl ho
  obtain ⟨w0,hw0⟩ : ∃ w0,w0 = w := ⟨_,rfl⟩
  have hB0 := hB
  have hv_0 := hv
  refine fn_of_W Tryz.func28 rfl Tryz.results28 Tryz.ntmps28 rfl ?_
  repeat ((first | refine qA rfl ?_|apply qB|refine qC rfl ?_|apply qD|apply qE|apply qF|apply qG|apply qH);try simp (maxSteps:=1000000)(disch:=(first|omega|(simp only [qI,qJ,qK]<;>omega)|exact qL _)) only [go_sem,↓reduceIte,n0,reduceCtorEq,n1,n2,n3,n4,n5,i0,i1,i2,i3,i4,i5,i6,i7,hv_0,hni_3])
  refine (AppendInt32_fn _ _ _ ha0.own hB0 _ (by simp only [List.length_append,List.length_nil];omega)).mono ?_
  rintro r1 w1 hc1
  rw [wrap32,← hXX_0] at hc1
  have ha1 := ha0.trans hc1
  have hB1 : B ≤ w1.heap.size := Nat.le_trans hB ha1.upd.size
  have hv_1 := ha1.upd.blk_some hv hdv
  repeat ((first | refine qA rfl ?_|apply qB|refine qC rfl ?_|apply qD|apply qE|apply qF|apply qG|apply qH);try simp (maxSteps:=1000000)(disch:=(first|omega|(simp only [qI,qJ,qK]<;>omega)|exact qL _)) only [go_sem,↓reduceIte,n0,reduceCtorEq,n1,n2,n3,n4,n5,i0,i1,i2,i3,i4,i5,i6,i7,hv_1,hni_3])
  refine (AppendInt16_fn _ _ _ ha1.own hB1 _ (by simp only [List.length_append,List.length_nil];omega)).mono ?_
  rintro r2 w2 hc2
  rw [wrap16,← hXX_1] at hc2
  have ha2 := ha1.trans hc2
  have hB2 : B ≤ w2.heap.size := Nat.le_trans hB ha2.upd.size
  have hv_2 := ha2.upd.blk_some hv hdv
  repeat ((first | refine qA rfl ?_|apply qB|refine qC rfl ?_|apply qD|apply qE|apply qF|apply qG|apply qH);try simp (maxSteps:=1000000)(disch:=(first|omega|(simp only [qI,qJ,qK]<;>omega)|exact qL _)) only [go_sem,↓reduceIte,n0,reduceCtorEq,n1,n2,n3,n4,n5,i0,i1,i2,i3,i4,i5,i6,i7,hv_2,hni_3])
  refine (AppendNullableString_fn (ok := okM) _ _ _ ha2.own hB2 _ (t.at 2).null (t.at 2).s (hp_2.keep (ha2.upd.keeps hd)) (g_2.text (.inl rfl)) (by simp only [List.length_append,List.length_nil];omega)).mono ?_
  rintro r3 w3 hc3
  rw [← hXX_2] at hc3
  have ha3 := ha2.trans hc3
  have hB3 : B ≤ w3.heap.size := Nat.le_trans hB ha3.upd.size
  have hv_3 := ha3.upd.blk_some hv hdv
  repeat ((first | refine qA rfl ?_|apply qB|refine qC rfl ?_|apply qD|apply qE|apply qF|apply qG|apply qH);try simp (maxSteps:=1000000)(disch:=(first|omega|(simp only [qI,qJ,qK]<;>omega)|exact qL _)) only [go_sem,↓reduceIte,n0,reduceCtorEq,n1,n2,n3,n4,n5,i0,i1,i2,i3,i4,i5,i6,i7,hv_3,hni_3])
  refine (AppendNullableArrayLen_fn _ _ _ ha3.own hB3 L_3.length hll_3 (nullS fQ_3 ver (t.at 3)) (by simp only [List.length_append,List.length_nil];omega)).mono ?_
  rintro r4 w4 hc4
  rw [← hXL_3] at hc4
  have ha4 := ha3.trans hc4
  have hB4 : B ≤ w4.heap.size := Nat.le_trans hB ha4.upd.size
  have hv_4 := ha4.upd.blk_some hv hdv
  repeat ((first | refine qA rfl ?_|apply qB|refine qC rfl ?_|apply qD|apply qE|apply qF|apply qG|apply qH);try simp (maxSteps:=1000000)(disch:=(first|omega|(simp only [qI,qJ,qK]<;>omega)|exact qL _)) only [go_sem,↓reduceIte,n0,reduceCtorEq,n1,n2,n3,n4,n5,i0,i1,i2,i3,i4,i5,i6,i7,hv_4,hni_3])
  have hadd1 := ha4
  refine W.exitJ 0 (fun ρ w' => ∃ r,ρ 1 = r ∧ ρ 0 = .pointer (some ⟨vb,0,none⟩) ∧ ρ 5 = .int .i16 ver ∧ ρ 6 = .bool false ∧ AppR 5 B w v s (([] ++ X_0 ++ X_1 ++ X_2 ++ XL_3) ++ XE_3) r w')
    (W.loop (fun ρ w' => ∃ (j : Nat) (r : Value),j ≤ L_3.length ∧ ρ 75 = .int .i64 j ∧ ρ 74 = .int .i64 L_3.length ∧ ρ 10 = .slice ab_3 L_3.length ac_3 ∧ ρ 1 = r ∧ ρ 0 = .pointer (some ⟨vb,0,none⟩) ∧ ρ 5 = .int .i16 ver ∧ ρ 6 = .bool false ∧ AppR 5 B w v s (([] ++ X_0 ++ X_1 ++ X_2 ++ XL_3) ++ (L_3.take j).flatMap (fun x => partS (d + 2) fs_X2 ver false x)) r w')
      (fun ρ _ => L_3.length - (RowKit.intOf (ρ 75)).toNat) ?_ ?_) ?_
  · refine ⟨0,_,Nat.zero_le _,?_,?_,?_,?_,?_,?_,?_,ha4.eqs (by rw [List.take_zero,List.flatMap_nil,List.append_nil])⟩ <;> simp (maxSteps:=1000000)(disch:=(first|omega|(simp only [qI,qJ,qK]<;>omega)|exact qL _)) only [go_sem,↓reduceIte,n0,reduceCtorEq,n1,n2,n3,n4,n5,i0,i1,i2,i3,i4,i5,i6,i7]
    all_goals rfl
  · rintro ρ w5 ⟨j1,r5,hj1,hI1,hN1,hS1,hr1_1,hr1_0,hr1_5,hr1_6,ha5⟩
    have hB5 : B ≤ w5.heap.size := Nat.le_trans hB ha5.upd.size
    have hv_5 := ha5.upd.blk_some hv hdv
    by_cases hlt1 : j1 < L_3.length
    · obtain ⟨_,b1,o1,x1,ce1,hb1,hok1,hx1,hbl1,hxs1,hxe1,hq1,hRe1⟩ := SlR.get (size := 3) (by decide) hs_3 hlt1
      subst hb1
      have hcat1 : L_3.take (j1 + 1) = L_3.take j1 ++ [L_3[j1]] := List.take_succ_eq_append_getElem hlt1
      have htl1 := take_flatMap_len L_3 (fun x => partS (d + 2) fs_X2 ver false x) (j1 + 1)
      rw [← hXE_3,hcat1,List.flatMap_append,List.flatMap_cons,List.flatMap_nil,List.append_nil] at htl1
      have hge1 := hgl_3.2 _ (List.getElem_mem hlt1)
      generalize L_3[j1] = y1 at *
      have hnx1 := hd b1 hbl1 hok1
      obtain ⟨T1,hTT1⟩ : ∃ T,T = (L_3.take j1).flatMap (fun x => partS (d + 2) fs_X2 ver false x) := ⟨_,rfl⟩
      rw [← hTT1] at ha5 htl1
      have hx1_5 := ha5.upd.blk_some hx1 hnx1
      replace hRe1 : RepS true (d + 2) fs_X2 okM w y1 ce1 := Rep1_part.1 hRe1
      have hfe1 : FitW ver (d + 2) fs_X2 y1 := hge1.2 rfl
      obtain ⟨⟨ge1_0,ge1_1,-⟩,hfue1⟩ := hfe1
      replace ge1_0 : hasS fX2_0 ver = true → FitWF (FitW ver (d + 1)) ver fX2_0 (y1.at 0) := ge1_0
      have hhe1_0 : hasS fX2_0 ver = true := hasS_t (by show (0 : Int) ≤ ver;omega) (by show (-1 : Int) < 0 ∨ ver ≤ (-1 : Int);omega)
      replace ge1_0 := ge1_0 hhe1_0
      replace ge1_1 : hasS fX2_1 ver = true → FitWF (FitW ver (d + 1)) ver fX2_1 (y1.at 1) := ge1_1
      have hhe1_1 : hasS fX2_1 ver = true := hasS_t (by show (0 : Int) ≤ ver;omega) (by show (-1 : Int) < 0 ∨ ver ≤ (-1 : Int);omega)
      replace ge1_1 := ge1_1 hhe1_1
      obtain ⟨cse1,qe1,hcse1,hLe1,hTe1⟩ := hRe1.inv
      obtain ⟨ce1_0,ee1_0,rfl,he1_0,ce1_1,ee1_1,rfl,he1_1,rfl⟩ := hLe1
      replace he1_0 : RepF (RepS true (d + 1)) (szS true (d + 1)) fX2_0 okM w (y1.at 0) ce1_0 := he1_0
      replace he1_1 : RepF (RepS true (d + 1)) (szS true (d + 1)) fX2_1 okM w (y1.at 1) ce1_1 := he1_1
      obtain ⟨pe1_0,rfl,hse1_0⟩ := RepF_listW ge1_0 rfl (by decide) he1_0
      obtain ⟨abe1_0,ace1_0,rfl,_⟩ := SlR.shape hse1_0
      have hgle1_0 := ge1_0.list rfl
      have hlle1_0 := hgle1_0.1
      obtain ⟨pe1_1,rfl,hse1_1⟩ := RepF_listW ge1_1 rfl (by decide) he1_1
      obtain ⟨abe1_1,ace1_1,rfl,_⟩ := SlR.shape hse1_1
      have hgle1_1 := ge1_1.list rfl
      have hlle1_1 := hgle1_1.1
      obtain ⟨qme1,rfl⟩ := hTe1.shape
      subst hcse1
      have hq1_0 : x1.1[o1 + j1 * 3]? = some (.slice abe1_0 (y1.at 0).l.length ace1_0) := hq1 0 (by decide)
      have hq1_1 : x1.1[o1 + (j1 * 3 + 1)]? = some (.slice abe1_1 (y1.at 1).l.length ace1_1) := hq1 1 (by decide)
      have hq1_2 : x1.1[o1 + (j1 * 3 + 2)]? = some (.map qme1) := hq1 2 (by decide)
      obtain ⟨XLe1_0,hXLe1_0⟩ : ∃ X,X = fixedS (y1.at 0).l.length 4 := ⟨_,rfl⟩
      obtain ⟨XEe1_0,hXEe1_0⟩ : ∃ X,X = (y1.at 0).l.flatMap (fun x => partS (d + 1) fs_X0 ver false x) := ⟨_,rfl⟩
      obtain ⟨XLe1_1,hXLe1_1⟩ : ∃ X,X = fixedS (y1.at 1).l.length 4 := ⟨_,rfl⟩
      obtain ⟨XEe1_1,hXEe1_1⟩ : ∃ X,X = (y1.at 1).l.flatMap (fun x => partS (d + 1) fs_X1 ver false x) := ⟨_,rfl⟩
      have hPe1 : partS (d + 2) fs_X2 ver false y1 = (XLe1_0 ++ XEe1_0) ++ ((XLe1_1 ++ XEe1_1) ++ []) := partS_no (plainL_has (by decide) hhe1_0 ((fieldS_list_f (g := (fun x => partS (d + 1) fs_X0 ver false x)) ge1_0 rfl (by decide) (fun x _ => valueS_part)).trans (by rw [hXLe1_0,hXEe1_0])) (plainL_has (by decide) hhe1_1 ((fieldS_list_f (g := (fun x => partS (d + 1) fs_X1 ver false x)) ge1_1 rfl (by decide) (fun x _ => valueS_part)).trans (by rw [hXLe1_1,hXEe1_1])) rfl))
      rw [hPe1] at htl1
      simp only [List.length_append,List.length_nil] at htl1
      repeat ((first | refine qA rfl ?_|apply qB|refine qC rfl ?_|apply qD|apply qE|apply qF|apply qG|apply qH);try simp (maxSteps:=1000000)(disch:=(first|omega|(simp only [qI,qJ,qK]<;>omega)|exact qL _)) only [go_sem,↓reduceIte,n0,reduceCtorEq,n1,n2,n3,n4,n5,i0,i1,i2,i3,i4,i5,i6,i7,hv_5,hx1_5,hni_3,Int.toNat_natCast,Nat.mul_one,hq1_0,hq1_1,hq1_2,hr1_1,hr1_0,hr1_5,hr1_6,hI1,hN1,hS1])
      refine (AppendArrayLen_fn _ _ _ ha5.own hB5 (y1.at 0).l.length hlle1_0 (by simp only [List.length_append,List.length_nil];omega)).mono ?_
      rintro r6 w6 hc6
      rw [← hXLe1_0] at hc6
      have ha6 := ha5.trans hc6
      have hB6 : B ≤ w6.heap.size := Nat.le_trans hB ha6.upd.size
      have hv_6 := ha6.upd.blk_some hv hdv
      have hx1_6 := ha6.upd.blk_some hx1 hnx1
      repeat ((first | refine qA rfl ?_|apply qB|refine qC rfl ?_|apply qD|apply qE|apply qF|apply qG|apply qH);try simp (maxSteps:=1000000)(disch:=(first|omega|(simp only [qI,qJ,qK]<;>omega)|exact qL _)) only [go_sem,↓reduceIte,n0,reduceCtorEq,n1,n2,n3,n4,n5,i0,i1,i2,i3,i4,i5,i6,i7,hv_6,hx1_6,hni_3,Int.toNat_natCast,Nat.mul_one,hq1_0,hq1_1,hq1_2,hr1_1,hr1_0,hr1_5,hr1_6,hI1,hN1,hS1])
      have hadd2 := ha6
      refine W.exitJ 2 (fun ρ w' => ∃ r,ρ 1 = r ∧ ρ 0 = .pointer (some ⟨vb,0,none⟩) ∧ ρ 5 = .int .i16 ver ∧ ρ 6 = .bool false ∧ ρ 75 = .int .i64 j1 ∧ ρ 74 = .int .i64 L_3.length ∧ ρ 10 = .slice (some ⟨b1,o1,none⟩) L_3.length ac_3 ∧ ρ 12 = .pointer (some ⟨b1,o1 + j1 * 3,none⟩) ∧ AppR 5 B w v s (([] ++ X_0 ++ X_1 ++ X_2 ++ XL_3 ++ T1 ++ XLe1_0) ++ XEe1_0) r w')
        (W.loop (fun ρ w' => ∃ (j : Nat) (r : Value),j ≤ (y1.at 0).l.length ∧ ρ 96 = .int .i64 j ∧ ρ 95 = .int .i64 (y1.at 0).l.length ∧ ρ 13 = .slice abe1_0 (y1.at 0).l.length ace1_0 ∧ ρ 1 = r ∧ ρ 0 = .pointer (some ⟨vb,0,none⟩) ∧ ρ 5 = .int .i16 ver ∧ ρ 6 = .bool false ∧ ρ 75 = .int .i64 j1 ∧ ρ 74 = .int .i64 L_3.length ∧ ρ 10 = .slice (some ⟨b1,o1,none⟩) L_3.length ac_3 ∧ ρ 12 = .pointer (some ⟨b1,o1 + j1 * 3,none⟩) ∧ AppR 5 B w v s (([] ++ X_0 ++ X_1 ++ X_2 ++ XL_3 ++ T1 ++ XLe1_0) ++ ((y1.at 0).l.take j).flatMap (fun x => partS (d + 1) fs_X0 ver false x)) r w')
          (fun ρ _ => (y1.at 0).l.length - (RowKit.intOf (ρ 96)).toNat) ?_ ?_) ?_
      · refine ⟨0,_,Nat.zero_le _,?_,?_,?_,?_,?_,?_,?_,?_,?_,?_,?_,ha6.eqs (by rw [List.take_zero,List.flatMap_nil,List.append_nil])⟩ <;> simp (maxSteps:=1000000)(disch:=(first|omega|(simp only [qI,qJ,qK]<;>omega)|exact qL _)) only [go_sem,↓reduceIte,n0,reduceCtorEq,n1,n2,n3,n4,n5,i0,i1,i2,i3,i4,i5,i6,i7,hr1_1,hr1_0,hr1_5,hr1_6,hI1,hN1,hS1]
        all_goals rfl
      · rintro ρ w7 ⟨j2,r7,hj2,hI2,hN2,hS2,hr1_2,hr2_0,hr2_5,hr2_6,hr2_75,hr2_74,hr2_10,hr2_12,ha7⟩
        have hB7 : B ≤ w7.heap.size := Nat.le_trans hB ha7.upd.size
        have hv_7 := ha7.upd.blk_some hv hdv
        have hx1_7 := ha7.upd.blk_some hx1 hnx1
        by_cases hlt2 : j2 < (y1.at 0).l.length
        · obtain ⟨_,b2,o2,x2,ce2,hb2,hok2,hx2,hbl2,hxs2,hxe2,hq2,hRe2⟩ := SlR.get (size := 3) (by decide) hse1_0 hlt2
          subst hb2
          have hcat2 : (y1.at 0).l.take (j2 + 1) = (y1.at 0).l.take j2 ++ [(y1.at 0).l[j2]] := List.take_succ_eq_append_getElem hlt2
          have htl2 := take_flatMap_len (y1.at 0).l (fun x => partS (d + 1) fs_X0 ver false x) (j2 + 1)
          rw [← hXEe1_0,hcat2,List.flatMap_append,List.flatMap_cons,List.flatMap_nil,List.append_nil] at htl2
          have hge2 := hgle1_0.2 _ (List.getElem_mem hlt2)
          generalize (y1.at 0).l[j2] = y2 at *
          have hnx2 := hd b2 hbl2 hok2
          obtain ⟨T2,hTT2⟩ : ∃ T,T = ((y1.at 0).l.take j2).flatMap (fun x => partS (d + 1) fs_X0 ver false x) := ⟨_,rfl⟩
          rw [← hTT2] at ha7 htl2
          have hx2_7 := ha7.upd.blk_some hx2 hnx2
          replace hRe2 : RepS true (d + 1) fs_X0 okM w y2 ce2 := Rep1_part.1 hRe2
          have hfe2 : FitW ver (d + 1) fs_X0 y2 := hge2.2 rfl
          obtain ⟨⟨ge2_0,ge2_1,-⟩,hfue2⟩ := hfe2
          replace ge2_0 : hasS fX0_0 ver = true → FitWF (FitW ver d) ver fX0_0 (y2.at 0) := ge2_0
          have hhe2_0 : hasS fX0_0 ver = true := hasS_t (by show (0 : Int) ≤ ver;omega) (by show (-1 : Int) < 0 ∨ ver ≤ (-1 : Int);omega)
          replace ge2_0 := ge2_0 hhe2_0
          replace ge2_1 : hasS fX0_1 ver = true → FitWF (FitW ver d) ver fX0_1 (y2.at 1) := ge2_1
          have hhe2_1 : hasS fX0_1 ver = true := hasS_t (by show (0 : Int) ≤ ver;omega) (by show (-1 : Int) < 0 ∨ ver ≤ (-1 : Int);omega)
          replace ge2_1 := ge2_1 hhe2_1
          obtain ⟨cse2,qe2,hcse2,hLe2,hTe2⟩ := hRe2.inv
          obtain ⟨ce2_0,ee2_0,rfl,he2_0,ce2_1,ee2_1,rfl,he2_1,rfl⟩ := hLe2
          replace he2_0 : RepF (RepS true d) (szS true d) fX0_0 okM w (y2.at 0) ce2_0 := he2_0
          replace he2_1 : RepF (RepS true d) (szS true d) fX0_1 okM w (y2.at 1) ce2_1 := he2_1
          obtain rfl := (RepF_text rfl (by decide)).1 he2_0
          obtain ⟨pe2_1,rfl,hpe2_1⟩ := (RepF_ptr rfl (by decide)).1 he2_1
          obtain ⟨qme2,rfl⟩ := hTe2.shape
          subst hcse2
          have hq2_0 : x2.1[o2 + j2 * 3]? = some (strV (y2.at 0).s) := hq2 0 (by decide)
          have hq2_1 : x2.1[o2 + (j2 * 3 + 1)]? = some (pe2_1) := hq2 1 (by decide)
          have hq2_2 : x2.1[o2 + (j2 * 3 + 2)]? = some (.map qme2) := hq2 2 (by decide)
          obtain ⟨Xe2_0,hXXe2_0⟩ : ∃ X,X = fixedS (y2.at 0).s.length 2 ++ (y2.at 0).s := ⟨_,rfl⟩
          obtain ⟨Xe2_1,hXXe2_1⟩ : ∃ X,X = if (y2.at 1).null = true then fixedS (-1) 2 else fixedS (y2.at 1).s.length 2 ++ (y2.at 1).s := ⟨_,rfl⟩
          have hPe2 : partS (d + 1) fs_X0 ver false y2 = Xe2_0 ++ (Xe2_1 ++ []) := partS_no (plainL_has (by decide) hhe2_0 ((fieldS_text_f ge2_0 rfl (by decide)).trans hXXe2_0.symm) (plainL_has (by decide) hhe2_1 ((fieldS_ptr_f ge2_1 rfl (by decide)).trans hXXe2_1.symm) rfl))
          rw [hPe2] at htl2
          simp only [List.length_append,List.length_nil] at htl2
          repeat ((first | refine qA rfl ?_|apply qB|refine qC rfl ?_|apply qD|apply qE|apply qF|apply qG|apply qH);try simp (maxSteps:=1000000)(disch:=(first|omega|(simp only [qI,qJ,qK]<;>omega)|exact qL _)) only [go_sem,↓reduceIte,n0,reduceCtorEq,n1,n2,n3,n4,n5,i0,i1,i2,i3,i4,i5,i6,i7,hv_7,hx1_7,hx2_7,hni_3,Int.toNat_natCast,Nat.mul_one,hq1_0,hq1_1,hq1_2,hq2_0,hq2_1,hq2_2,hr1_2,hr2_0,hr2_5,hr2_6,hr2_75,hr2_74,hr2_10,hr2_12,hI2,hN2,hS2])
          refine (AppendString_fn _ _ _ ha7.own hB7 (y2.at 0).s (ge2_0.text (.inl rfl)) (by simp only [List.length_append,List.length_nil];omega)).mono ?_
          rintro r8 w8 hc8
          rw [← hXXe2_0] at hc8
          have ha8 := ha7.trans hc8
          have hB8 : B ≤ w8.heap.size := Nat.le_trans hB ha8.upd.size
          have hv_8 := ha8.upd.blk_some hv hdv
          have hx1_8 := ha8.upd.blk_some hx1 hnx1
          have hx2_8 := ha8.upd.blk_some hx2 hnx2
          repeat ((first | refine qA rfl ?_|apply qB|refine qC rfl ?_|apply qD|apply qE|apply qF|apply qG|apply qH);try simp (maxSteps:=1000000)(disch:=(first|omega|(simp only [qI,qJ,qK]<;>omega)|exact qL _)) only [go_sem,↓reduceIte,n0,reduceCtorEq,n1,n2,n3,n4,n5,i0,i1,i2,i3,i4,i5,i6,i7,hv_8,hx1_8,hx2_8,hni_3,Int.toNat_natCast,Nat.mul_one,hq1_0,hq1_1,hq1_2,hq2_0,hq2_1,hq2_2,hr1_2,hr2_0,hr2_5,hr2_6,hr2_75,hr2_74,hr2_10,hr2_12,hI2,hN2,hS2])
          refine (AppendNullableString_fn (ok := okM) _ _ _ ha8.own hB8 _ (y2.at 1).null (y2.at 1).s (hpe2_1.keep (ha8.upd.keeps hd)) (ge2_1.text (.inl rfl)) (by simp only [List.length_append,List.length_nil];omega)).mono ?_
          rintro r9 w9 hc9
          rw [← hXXe2_1] at hc9
          have ha9 := ha8.trans hc9
          have hB9 : B ≤ w9.heap.size := Nat.le_trans hB ha9.upd.size
          have hv_9 := ha9.upd.blk_some hv hdv
          have hx1_9 := ha9.upd.blk_some hx1 hnx1
          have hx2_9 := ha9.upd.blk_some hx2 hnx2
          repeat ((first | refine qA rfl ?_|apply qB|refine qC rfl ?_|apply qD|apply qE|apply qF|apply qG|apply qH);try simp (maxSteps:=1000000)(disch:=(first|omega|(simp only [qI,qJ,qK]<;>omega)|exact qL _)) only [go_sem,↓reduceIte,n0,reduceCtorEq,n1,n2,n3,n4,n5,i0,i1,i2,i3,i4,i5,i6,i7,hr1_2,hr2_0,hr2_5,hr2_6,hr2_75,hr2_74,hr2_10,hr2_12,hI2,hN2,hS2])
          refine ⟨⟨j2 + 1,_,by omega,rfl,rfl,ha9.eqs ?_⟩,?_⟩
          · rw [hcat2,List.flatMap_append,List.flatMap_cons,List.flatMap_nil,List.append_nil,← hTT2,hPe2];simp only [List.append_assoc,List.append_nil,List.nil_append]
          · simp only [RowKit.intOf];omega
        · have hjl2 : j2 = (y1.at 0).l.length := by omega
          subst hjl2
          rw [List.take_length,← hXEe1_0] at ha7
          repeat ((first | refine qA rfl ?_|apply qB|refine qC rfl ?_|apply qD|apply qE|apply qF|apply qG|apply qH);try simp (maxSteps:=1000000)(disch:=(first|omega|(simp only [qI,qJ,qK]<;>omega)|exact qL _)) only [go_sem,↓reduceIte,n0,reduceCtorEq,n1,n2,n3,n4,n5,i0,i1,i2,i3,i4,i5,i6,i7,hI2,hN2])
          exact ⟨_,hr1_2,hr2_0,hr2_5,hr2_6,hr2_75,hr2_74,hr2_10,hr2_12,ha7⟩
      · rintro ρ w10 ⟨r10,hr1_3,hr3_0,hr3_5,hr3_6,hr3_75,hr3_74,hr3_10,hr3_12,ha10⟩
        have hB10 : B ≤ w10.heap.size := Nat.le_trans hB ha10.upd.size
        have hv_10 := ha10.upd.blk_some hv hdv
        have hx1_10 := ha10.upd.blk_some hx1 hnx1
        repeat ((first | refine qA rfl ?_|apply qB|refine qC rfl ?_|apply qD|apply qE|apply qF|apply qG|apply qH);try simp (maxSteps:=1000000)(disch:=(first|omega|(simp only [qI,qJ,qK]<;>omega)|exact qL _)) only [go_sem,↓reduceIte,n0,reduceCtorEq,n1,n2,n3,n4,n5,i0,i1,i2,i3,i4,i5,i6,i7,hv_10,hx1_10,hni_3,Int.toNat_natCast,Nat.mul_one,hq1_0,hq1_1,hq1_2,hr1_3,hr3_0,hr3_5,hr3_6,hr3_75,hr3_74,hr3_10,hr3_12])
        refine (AppendArrayLen_fn _ _ _ ha10.own hB10 (y1.at 1).l.length hlle1_1 (by simp only [List.length_append,List.length_nil];omega)).mono ?_
        rintro r11 w11 hc11
        rw [← hXLe1_1] at hc11
        have ha11 := ha10.trans hc11
        have hB11 : B ≤ w11.heap.size := Nat.le_trans hB ha11.upd.size
        have hv_11 := ha11.upd.blk_some hv hdv
        have hx1_11 := ha11.upd.blk_some hx1 hnx1
        repeat ((first | refine qA rfl ?_|apply qB|refine qC rfl ?_|apply qD|apply qE|apply qF|apply qG|apply qH);try simp (maxSteps:=1000000)(disch:=(first|omega|(simp only [qI,qJ,qK]<;>omega)|exact qL _)) only [go_sem,↓reduceIte,n0,reduceCtorEq,n1,n2,n3,n4,n5,i0,i1,i2,i3,i4,i5,i6,i7,hv_11,hx1_11,hni_3,Int.toNat_natCast,Nat.mul_one,hq1_0,hq1_1,hq1_2,hr1_3,hr3_0,hr3_5,hr3_6,hr3_75,hr3_74,hr3_10,hr3_12])
        have hadd4 := ha11
        refine W.exitJ 4 (fun ρ w' => ∃ r,ρ 1 = r ∧ ρ 0 = .pointer (some ⟨vb,0,none⟩) ∧ ρ 5 = .int .i16 ver ∧ ρ 6 = .bool false ∧ ρ 75 = .int .i64 j1 ∧ ρ 74 = .int .i64 L_3.length ∧ ρ 10 = .slice (some ⟨b1,o1,none⟩) L_3.length ac_3 ∧ ρ 12 = .pointer (some ⟨b1,o1 + j1 * 3,none⟩) ∧ AppR 5 B w v s (([] ++ X_0 ++ X_1 ++ X_2 ++ XL_3 ++ T1 ++ XLe1_0 ++ XEe1_0 ++ XLe1_1) ++ XEe1_1) r w')
          (W.loop (fun ρ w' => ∃ (j : Nat) (r : Value),j ≤ (y1.at 1).l.length ∧ ρ 154 = .int .i64 j ∧ ρ 153 = .int .i64 (y1.at 1).l.length ∧ ρ 18 = .slice abe1_1 (y1.at 1).l.length ace1_1 ∧ ρ 1 = r ∧ ρ 0 = .pointer (some ⟨vb,0,none⟩) ∧ ρ 5 = .int .i16 ver ∧ ρ 6 = .bool false ∧ ρ 75 = .int .i64 j1 ∧ ρ 74 = .int .i64 L_3.length ∧ ρ 10 = .slice (some ⟨b1,o1,none⟩) L_3.length ac_3 ∧ ρ 12 = .pointer (some ⟨b1,o1 + j1 * 3,none⟩) ∧ AppR 5 B w v s (([] ++ X_0 ++ X_1 ++ X_2 ++ XL_3 ++ T1 ++ XLe1_0 ++ XEe1_0 ++ XLe1_1) ++ ((y1.at 1).l.take j).flatMap (fun x => partS (d + 1) fs_X1 ver false x)) r w')
            (fun ρ _ => (y1.at 1).l.length - (RowKit.intOf (ρ 154)).toNat) ?_ ?_) ?_
        · refine ⟨0,_,Nat.zero_le _,?_,?_,?_,?_,?_,?_,?_,?_,?_,?_,?_,ha11.eqs (by rw [List.take_zero,List.flatMap_nil,List.append_nil])⟩ <;> simp (maxSteps:=1000000)(disch:=(first|omega|(simp only [qI,qJ,qK]<;>omega)|exact qL _)) only [go_sem,↓reduceIte,n0,reduceCtorEq,n1,n2,n3,n4,n5,i0,i1,i2,i3,i4,i5,i6,i7,hr1_3,hr3_0,hr3_5,hr3_6,hr3_75,hr3_74,hr3_10,hr3_12]
          all_goals rfl
        · rintro ρ w12 ⟨j4,r12,hj4,hI4,hN4,hS4,hr1_4,hr4_0,hr4_5,hr4_6,hr4_75,hr4_74,hr4_10,hr4_12,ha12⟩
          have hB12 : B ≤ w12.heap.size := Nat.le_trans hB ha12.upd.size
          have hv_12 := ha12.upd.blk_some hv hdv
          have hx1_12 := ha12.upd.blk_some hx1 hnx1
          by_cases hlt4 : j4 < (y1.at 1).l.length
          · obtain ⟨_,b4,o4,x4,ce4,hb4,hok4,hx4,hbl4,hxs4,hxe4,hq4,hRe4⟩ := SlR.get (size := 3) (by decide) hse1_1 hlt4
            subst hb4
            have hcat4 : (y1.at 1).l.take (j4 + 1) = (y1.at 1).l.take j4 ++ [(y1.at 1).l[j4]] := List.take_succ_eq_append_getElem hlt4
            have htl4 := take_flatMap_len (y1.at 1).l (fun x => partS (d + 1) fs_X1 ver false x) (j4 + 1)
            rw [← hXEe1_1,hcat4,List.flatMap_append,List.flatMap_cons,List.flatMap_nil,List.append_nil] at htl4
            have hge4 := hgle1_1.2 _ (List.getElem_mem hlt4)
            generalize (y1.at 1).l[j4] = y4 at *
            have hnx4 := hd b4 hbl4 hok4
            obtain ⟨T4,hTT4⟩ : ∃ T,T = ((y1.at 1).l.take j4).flatMap (fun x => partS (d + 1) fs_X1 ver false x) := ⟨_,rfl⟩
            rw [← hTT4] at ha12 htl4
            have hx4_12 := ha12.upd.blk_some hx4 hnx4
            replace hRe4 : RepS true (d + 1) fs_X1 okM w y4 ce4 := Rep1_part.1 hRe4
            have hfe4 : FitW ver (d + 1) fs_X1 y4 := hge4.2 rfl
            obtain ⟨⟨ge4_0,ge4_1,-⟩,hfue4⟩ := hfe4
            replace ge4_0 : hasS fX1_0 ver = true → FitWF (FitW ver d) ver fX1_0 (y4.at 0) := ge4_0
            have hhe4_0 : hasS fX1_0 ver = true := hasS_t (by show (0 : Int) ≤ ver;omega) (by show (-1 : Int) < 0 ∨ ver ≤ (-1 : Int);omega)
            replace ge4_0 := ge4_0 hhe4_0
            replace ge4_1 : hasS fX1_1 ver = true → FitWF (FitW ver d) ver fX1_1 (y4.at 1) := ge4_1
            have hhe4_1 : hasS fX1_1 ver = true := hasS_t (by show (0 : Int) ≤ ver;omega) (by show (-1 : Int) < 0 ∨ ver ≤ (-1 : Int);omega)
            replace ge4_1 := ge4_1 hhe4_1
            obtain ⟨cse4,qe4,hcse4,hLe4,hTe4⟩ := hRe4.inv
            obtain ⟨ce4_0,ee4_0,rfl,he4_0,ce4_1,ee4_1,rfl,he4_1,rfl⟩ := hLe4
            replace he4_0 : RepF (RepS true d) (szS true d) fX1_0 okM w (y4.at 0) ce4_0 := he4_0
            replace he4_1 : RepF (RepS true d) (szS true d) fX1_1 okM w (y4.at 1) ce4_1 := he4_1
            obtain rfl := (RepF_text rfl (by decide)).1 he4_0
            obtain rfl := (RepF_num (by decide)).1 he4_1
            obtain ⟨qme4,rfl⟩ := hTe4.shape
            subst hcse4
            have hq4_0 : x4.1[o4 + j4 * 3]? = some (strV (y4.at 0).s) := hq4 0 (by decide)
            have hq4_1 : x4.1[o4 + (j4 * 3 + 1)]? = some (.float .f64 ((y4.at 1).n % 18446744073709551616).toNat) := hq4 1 (by decide)
            have hq4_2 : x4.1[o4 + (j4 * 3 + 2)]? = some (.map qme4) := hq4 2 (by decide)
            obtain ⟨Xe4_0,hXXe4_0⟩ : ∃ X,X = fixedS (y4.at 0).s.length 2 ++ (y4.at 0).s := ⟨_,rfl⟩
            obtain ⟨Xe4_1,hXXe4_1⟩ : ∃ X,X = fixedS (y4.at 1).n 8 := ⟨_,rfl⟩
            have hPe4 : partS (d + 1) fs_X1 ver false y4 = Xe4_0 ++ (Xe4_1 ++ []) := partS_no (plainL_has (by decide) hhe4_0 ((fieldS_text_f ge4_0 rfl (by decide)).trans hXXe4_0.symm) (plainL_has (by decide) hhe4_1 ((fieldS_num 6 rfl (by decide)).trans hXXe4_1.symm) rfl))
            rw [hPe4] at htl4
            simp only [List.length_append,List.length_nil] at htl4
            repeat ((first | refine qA rfl ?_|apply qB|refine qC rfl ?_|apply qD|apply qE|apply qF|apply qG|apply qH);try simp (maxSteps:=1000000)(disch:=(first|omega|(simp only [qI,qJ,qK]<;>omega)|exact qL _)) only [go_sem,↓reduceIte,n0,reduceCtorEq,n1,n2,n3,n4,n5,i0,i1,i2,i3,i4,i5,i6,i7,hv_12,hx1_12,hx4_12,hni_3,Int.toNat_natCast,Nat.mul_one,hq1_0,hq1_1,hq1_2,hq4_0,hq4_1,hq4_2,hr1_4,hr4_0,hr4_5,hr4_6,hr4_75,hr4_74,hr4_10,hr4_12,hI4,hN4,hS4])
            refine (AppendString_fn _ _ _ ha12.own hB12 (y4.at 0).s (ge4_0.text (.inl rfl)) (by simp only [List.length_append,List.length_nil];omega)).mono ?_
            rintro r13 w13 hc13
            rw [← hXXe4_0] at hc13
            have ha13 := ha12.trans hc13
            have hB13 : B ≤ w13.heap.size := Nat.le_trans hB ha13.upd.size
            have hv_13 := ha13.upd.blk_some hv hdv
            have hx1_13 := ha13.upd.blk_some hx1 hnx1
            have hx4_13 := ha13.upd.blk_some hx4 hnx4
            repeat ((first | refine qA rfl ?_|apply qB|refine qC rfl ?_|apply qD|apply qE|apply qF|apply qG|apply qH);try simp (maxSteps:=1000000)(disch:=(first|omega|(simp only [qI,qJ,qK]<;>omega)|exact qL _)) only [go_sem,↓reduceIte,n0,reduceCtorEq,n1,n2,n3,n4,n5,i0,i1,i2,i3,i4,i5,i6,i7,hv_13,hx1_13,hx4_13,hni_3,Int.toNat_natCast,Nat.mul_one,hq1_0,hq1_1,hq1_2,hq4_0,hq4_1,hq4_2,hr1_4,hr4_0,hr4_5,hr4_6,hr4_75,hr4_74,hr4_10,hr4_12,hI4,hN4,hS4])
            refine (AppendFloat64_fn _ _ _ ha13.own hB13 _ (by simp only [List.length_append,List.length_nil];omega)).mono ?_
            rintro r14 w14 hc14
            rw [← hXXe4_1] at hc14
            have ha14 := ha13.trans hc14
            have hB14 : B ≤ w14.heap.size := Nat.le_trans hB ha14.upd.size
            have hv_14 := ha14.upd.blk_some hv hdv
            have hx1_14 := ha14.upd.blk_some hx1 hnx1
            have hx4_14 := ha14.upd.blk_some hx4 hnx4
            repeat ((first | refine qA rfl ?_|apply qB|refine qC rfl ?_|apply qD|apply qE|apply qF|apply qG|apply qH);try simp (maxSteps:=1000000)(disch:=(first|omega|(simp only [qI,qJ,qK]<;>omega)|exact qL _)) only [go_sem,↓reduceIte,n0,reduceCtorEq,n1,n2,n3,n4,n5,i0,i1,i2,i3,i4,i5,i6,i7,hr1_4,hr4_0,hr4_5,hr4_6,hr4_75,hr4_74,hr4_10,hr4_12,hI4,hN4,hS4])
            refine ⟨⟨j4 + 1,_,by omega,rfl,rfl,ha14.eqs ?_⟩,?_⟩
            · rw [hcat4,List.flatMap_append,List.flatMap_cons,List.flatMap_nil,List.append_nil,← hTT4,hPe4];simp only [List.append_assoc,List.append_nil,List.nil_append]
            · simp only [RowKit.intOf];omega
          · have hjl4 : j4 = (y1.at 1).l.length := by omega
            subst hjl4
            rw [List.take_length,← hXEe1_1] at ha12
            repeat ((first | refine qA rfl ?_|apply qB|refine qC rfl ?_|apply qD|apply qE|apply qF|apply qG|apply qH);try simp (maxSteps:=1000000)(disch:=(first|omega|(simp only [qI,qJ,qK]<;>omega)|exact qL _)) only [go_sem,↓reduceIte,n0,reduceCtorEq,n1,n2,n3,n4,n5,i0,i1,i2,i3,i4,i5,i6,i7,hI4,hN4])
            exact ⟨_,hr1_4,hr4_0,hr4_5,hr4_6,hr4_75,hr4_74,hr4_10,hr4_12,ha12⟩
        · rintro ρ w15 ⟨r15,hr1_5,hr5_0,hr5_5,hr5_6,hr5_75,hr5_74,hr5_10,hr5_12,ha15⟩
          have hB15 : B ≤ w15.heap.size := Nat.le_trans hB ha15.upd.size
          have hv_15 := ha15.upd.blk_some hv hdv
          have hx1_15 := ha15.upd.blk_some hx1 hnx1
          repeat ((first | refine qA rfl ?_|apply qB|refine qC rfl ?_|apply qD|apply qE|apply qF|apply qG|apply qH);try simp (maxSteps:=1000000)(disch:=(first|omega|(simp only [qI,qJ,qK]<;>omega)|exact qL _)) only [go_sem,↓reduceIte,n0,reduceCtorEq,n1,n2,n3,n4,n5,i0,i1,i2,i3,i4,i5,i6,i7,hr1_5,hr5_0,hr5_5,hr5_6,hr5_75,hr5_74,hr5_10,hr5_12])
          refine ⟨⟨j1 + 1,_,by omega,rfl,rfl,ha15.eqs ?_⟩,?_⟩
          · rw [hcat1,List.flatMap_append,List.flatMap_cons,List.flatMap_nil,List.append_nil,← hTT1,hPe1];simp only [List.append_assoc,List.append_nil,List.nil_append]
          · simp only [RowKit.intOf];omega
    · have hjl1 : j1 = L_3.length := by omega
      subst hjl1
      rw [List.take_length,← hXE_3] at ha5
      repeat ((first | refine qA rfl ?_|apply qB|refine qC rfl ?_|apply qD|apply qE|apply qF|apply qG|apply qH);try simp (maxSteps:=1000000)(disch:=(first|omega|(simp only [qI,qJ,qK]<;>omega)|exact qL _)) only [go_sem,↓reduceIte,n0,reduceCtorEq,n1,n2,n3,n4,n5,i0,i1,i2,i3,i4,i5,i6,i7,hI1,hN1])
      exact ⟨_,hr1_1,hr1_0,hr1_5,hr1_6,ha5⟩
  · rintro ρ w16 ⟨r16,hr1_6,hr6_0,hr6_5,hr6_6,ha16⟩
    have hB16 : B ≤ w16.heap.size := Nat.le_trans hB ha16.upd.size
    have hv_16 := ha16.upd.blk_some hv hdv
    repeat ((first | refine qA rfl ?_|apply qB|refine qC rfl ?_|apply qD|apply qE|apply qF|apply qG|apply qH);try simp (maxSteps:=1000000)(disch:=(first|omega|(simp only [qI,qJ,qK]<;>omega)|exact qL _)) only [go_sem,↓reduceIte,n0,reduceCtorEq,n1,n2,n3,n4,n5,i0,i1,i2,i3,i4,i5,i6,i7,hv_16,hni_3,hr1_6,hr6_0,hr6_5,hr6_6])
    refine ha16.eqs ?_
    rw [hP];simp only [List.append_assoc,List.append_nil,List.nil_append]

set_option maxHeartbeats 4000000 in
theorem appQ_1 {d B : Nat} {okM : Blocks} {ver : Int} (hlo : 1 ≤ ver) (hhi : ver ≤ 1) (t : Tree) (cells : List Value) (v : Value) (s : List UInt8) (w : World) {vb : Nat} (ho : OwnBy 5 B w v s) (hB : B ≤ w.heap.size) (hvb : blk w vb = some ((.int .i16 ver :: cells).toArray,95,(0,0)))
    (hR : RepS true (d + 3) fs_Q okM w t cells) (hfit : FitW ver (d + 3) fs_Q t) (hd : ∀ b,b < w.heap.size → okM b → ¬ ownB v b) (hdv : ¬ ownB v vb) (hlen : s.length + (partS (d + 3) fs_Q ver true t).length ≤ 2 ^ 41) :
    Fn Tryz.prog 28 #[.pointer (some ⟨vb,0,none⟩),v] w fun r w' => AppR 5 B w v s (partS (d + 3) fs_Q ver true t) r w' := by
  obtain ⟨⟨g_0,g_1,g_2,g_3,-⟩,hfu⟩ := hfit
  replace g_0 : hasS fQ_0 ver = true → FitWF (FitW ver (d + 2)) ver fQ_0 (t.at 0) := g_0
  have hh_0 : hasS fQ_0 ver = true := hasS_t (by show (0 : Int) ≤ ver;omega) (by show (-1 : Int) < 0 ∨ ver ≤ (-1 : Int);omega)
  replace g_0 := g_0 hh_0
  replace g_1 : hasS fQ_1 ver = true → FitWF (FitW ver (d + 2)) ver fQ_1 (t.at 1) := g_1
  have hh_1 : hasS fQ_1 ver = true := hasS_t (by show (0 : Int) ≤ ver;omega) (by show (-1 : Int) < 0 ∨ ver ≤ (-1 : Int);omega)
  replace g_1 := g_1 hh_1
  replace g_2 : hasS fQ_2 ver = true → FitWF (FitW ver (d + 2)) ver fQ_2 (t.at 2) := g_2
  have hh_2 : hasS fQ_2 ver = true := hasS_t (by show (0 : Int) ≤ ver;omega) (by show (-1 : Int) < 0 ∨ ver ≤ (-1 : Int);omega)
  replace g_2 := g_2 hh_2
  replace g_3 : hasS fQ_3 ver = true → FitWF (FitW ver (d + 2)) ver fQ_3 (t.at 3) := g_3
  have hh_3 : hasS fQ_3 ver = true := hasS_t (by show (0 : Int) ≤ ver;omega) (by show (-1 : Int) < 0 ∨ ver ≤ (-1 : Int);omega)
  replace g_3 := g_3 hh_3
  obtain ⟨cs,q,hcs,hL,hT⟩ := hR.inv
  obtain ⟨c_0,e_0,rfl,h_0,c_1,e_1,rfl,h_1,c_2,e_2,rfl,h_2,c_3,e_3,rfl,h_3,rfl⟩ := hL
  replace h_0 : RepF (RepS true (d + 2)) (szS true (d + 2)) fQ_0 okM w (t.at 0) c_0 := h_0
  replace h_1 : RepF (RepS true (d + 2)) (szS true (d + 2)) fQ_1 okM w (t.at 1) c_1 := h_1
  replace h_2 : RepF (RepS true (d + 2)) (szS true (d + 2)) fQ_2 okM w (t.at 2) c_2 := h_2
  replace h_3 : RepF (RepS true (d + 2)) (szS true (d + 2)) fQ_3 okM w (t.at 3) c_3 := h_3
  obtain rfl := (RepF_num (by decide)).1 h_0
  obtain rfl := (RepF_num (by decide)).1 h_1
  obtain ⟨p_2,rfl,hp_2⟩ := (RepF_ptr rfl (by decide)).1 h_2
  obtain ⟨p_3,L_3,rfl,hLL_3,hs_3,hnn_3⟩ := RepF_listN g_3 rfl (by decide) h_3
  obtain ⟨ab_3,ac_3,rfl,_⟩ := SlR.shape hs_3
  have hni_3 := hnn_3 _ _ _ rfl
  have hgl_3 := g_3.listL rfl hLL_3
  have hll_3 := hgl_3.1
  obtain ⟨qm,rfl⟩ := hT.shape
  have hv : blk w vb = some (#[.int .i16 ver,.int .i32 (IntKind.i32.wrap (t.at 0).n),.int .i16 (IntKind.i16.wrap (t.at 1).n),p_2,.slice ab_3 L_3.length ac_3,.map qm],95,(0,0)) := by rw [hvb,hcs];rfl
  clear hvb hcs
  obtain ⟨X_0,hXX_0⟩ : ∃ X,X = fixedS (t.at 0).n 4 := ⟨_,rfl⟩
  obtain ⟨X_1,hXX_1⟩ : ∃ X,X = fixedS (t.at 1).n 2 := ⟨_,rfl⟩
  obtain ⟨X_2,hXX_2⟩ : ∃ X,X = if (t.at 2).null = true then [0] else uvarS ((t.at 2).s.length + 1) ++ (t.at 2).s := ⟨_,rfl⟩
  obtain ⟨XL_3,hXL_3⟩ : ∃ X,X = countedS true (nullS fQ_3 ver (t.at 3)) L_3.length 4 := ⟨_,rfl⟩
  obtain ⟨XE_3,hXE_3⟩ : ∃ X,X = L_3.flatMap (fun x => partS (d + 2) fs_X2 ver true x) := ⟨_,rfl⟩
  obtain ⟨XU,hXU⟩ : ∃ X,X = uvarS t.u.length := ⟨_,rfl⟩
  obtain ⟨XT,hXT⟩ : ∃ X,X = t.u.flatMap oneTag := ⟨_,rfl⟩
  have hP : partS (d + 3) fs_Q ver true t = (X_0 ++ (X_1 ++ (X_2 ++ ((XL_3 ++ XE_3) ++ [])))) ++ (XU ++ XT) := by rw [hXU,hXT];exact partS_yes rfl hfu (plainL_has (by decide) hh_0 ((fieldS_num 3 rfl (by decide)).trans hXX_0.symm) (plainL_has (by decide) hh_1 ((fieldS_num 2 rfl (by decide)).trans hXX_1.symm) (plainL_has (by decide) hh_2 ((fieldS_ptr_t g_2 rfl (by decide)).trans hXX_2.symm) (plainL_has (by decide) hh_3 ((fieldS_listN (g := (fun x => partS (d + 2) fs_X2 ver true x)) g_3 rfl hLL_3 (fun x _ => valueS_part)).trans (by rw [hXL_3,hXE_3])) rfl))))
  rw [hP] at hlen
  simp only [List.length_append,List.length_nil] at hlen
  have hdK : ∀ {r : Value} {w' : World} {add : List UInt8},AppR 5 B w v s add r w' → ∀ b,b < w'.heap.size → OkS okM w.heap.size b → ¬ ownB r b := fun h b _ hk ho => (h.frame b ho).elim (hd b hk.2 hk.1) (fun h => by have := hk.2;omega)
  have ownK : ∀ {r : Value} {w' : World} {add : List UInt8} {b : Nat},AppR 5 B w v s add r w' → b < w.heap.size → ¬ ownB v b → ¬ ownB r b := fun h hb hn ho => (h.frame _ ho).elim hn (fun h => by omega)
  have ha0 : AppR 5 B w v s [] v w := AppR.refl ho
  obtain ⟨w0,hw0⟩ : ∃ w0,w0 = w := ⟨_,rfl⟩
  have hB0 := hB
  have hv_0 := hv
  refine fn_of_W Tryz.func28 rfl Tryz.results28 Tryz.ntmps28 rfl ?_
  repeat ((first | refine qA rfl ?_|apply qB|refine qC rfl ?_|apply qD|apply qE|apply qF|apply qG|apply qH);try simp (maxSteps:=1000000)(disch:=(first|omega|(simp only [qI,qJ,qK]<;>omega)|exact qL _)) only [go_sem,↓reduceIte,n0,reduceCtorEq,n1,n2,n3,n4,n5,i0,i1,i2,i3,i4,i5,i6,i7,hv_0,hni_3])
  refine (AppendInt32_fn _ _ _ ha0.own hB0 _ (by simp only [List.length_append,List.length_nil];omega)).mono ?_
  rintro r1 w1 hc1
  rw [wrap32,← hXX_0] at hc1
  have ha1 := ha0.trans hc1
  have hB1 : B ≤ w1.heap.size := Nat.le_trans hB ha1.upd.size
  have hv_1 := ha1.upd.blk_some hv hdv
  repeat ((first | refine qA rfl ?_|apply qB|refine qC rfl ?_|apply qD|apply qE|apply qF|apply qG|apply qH);try simp (maxSteps:=1000000)(disch:=(first|omega|(simp only [qI,qJ,qK]<;>omega)|exact qL _)) only [go_sem,↓reduceIte,n0,reduceCtorEq,n1,n2,n3,n4,n5,i0,i1,i2,i3,i4,i5,i6,i7,hv_1,hni_3])
  refine (AppendInt16_fn _ _ _ ha1.own hB1 _ (by simp only [List.length_append,List.length_nil];omega)).mono ?_
  rintro r2 w2 hc2
  rw [wrap16,← hXX_1] at hc2
  have ha2 := ha1.trans hc2
  have hB2 : B ≤ w2.heap.size := Nat.le_trans hB ha2.upd.size
  have hv_2 := ha2.upd.blk_some hv hdv
  repeat ((first | refine qA rfl ?_|apply qB|refine qC rfl ?_|apply qD|apply qE|apply qF|apply qG|apply qH);try simp (maxSteps:=1000000)(disch:=(first|omega|(simp only [qI,qJ,qK]<;>omega)|exact qL _)) only [go_sem,↓reduceIte,n0,reduceCtorEq,n1,n2,n3,n4,n5,i0,i1,i2,i3,i4,i5,i6,i7,hv_2,hni_3])
  refine (AppendCompactNullableString_fn (ok := okM) _ _ _ ha2.own hB2 _ (t.at 2).null (t.at 2).s (hp_2.keep (ha2.upd.keeps hd)) (g_2.text (.inl rfl)) (by simp only [List.length_append,List.length_nil];omega)).mono ?_
  rintro r3 w3 hc3
  rw [← hXX_2] at hc3
  have ha3 := ha2.trans hc3
  have hB3 : B ≤ w3.heap.size := Nat.le_trans hB ha3.upd.size
  have hv_3 := ha3.upd.blk_some hv hdv
  repeat ((first | refine qA rfl ?_|apply qB|refine qC rfl ?_|apply qD|apply qE|apply qF|apply qG|apply qH);try simp (maxSteps:=1000000)(disch:=(first|omega|(simp only [qI,qJ,qK]<;>omega)|exact qL _)) only [go_sem,↓reduceIte,n0,reduceCtorEq,n1,n2,n3,n4,n5,i0,i1,i2,i3,i4,i5,i6,i7,hv_3,hni_3])
  refine (AppendCompactNullableArrayLen_fn _ _ _ ha3.own hB3 L_3.length hll_3 (nullS fQ_3 ver (t.at 3)) (by simp only [List.length_append,List.length_nil];omega)).mono ?_
  rintro r4 w4 hc4
  rw [← hXL_3] at hc4
  have ha4 := ha3.trans hc4
  have hB4 : B ≤ w4.heap.size := Nat.le_trans hB ha4.upd.size
  have hv_4 := ha4.upd.blk_some hv hdv
  repeat ((first | refine qA rfl ?_|apply qB|refine qC rfl ?_|apply qD|apply qE|apply qF|apply qG|apply qH);try simp (maxSteps:=1000000)(disch:=(first|omega|(simp only [qI,qJ,qK]<;>omega)|exact qL _)) only [go_sem,↓reduceIte,n0,reduceCtorEq,n1,n2,n3,n4,n5,i0,i1,i2,i3,i4,i5,i6,i7,hv_4,hni_3])
  have hadd1 := ha4
  refine W.exitJ 0 (fun ρ w' => ∃ r,ρ 1 = r ∧ ρ 0 = .pointer (some ⟨vb,0,none⟩) ∧ ρ 5 = .int .i16 ver ∧ ρ 6 = .bool true ∧ AppR 5 B w v s (([] ++ X_0 ++ X_1 ++ X_2 ++ XL_3) ++ XE_3) r w')
    (W.loop (fun ρ w' => ∃ (j : Nat) (r : Value),j ≤ L_3.length ∧ ρ 75 = .int .i64 j ∧ ρ 74 = .int .i64 L_3.length ∧ ρ 10 = .slice ab_3 L_3.length ac_3 ∧ ρ 1 = r ∧ ρ 0 = .pointer (some ⟨vb,0,none⟩) ∧ ρ 5 = .int .i16 ver ∧ ρ 6 = .bool true ∧ AppR 5 B w v s (([] ++ X_0 ++ X_1 ++ X_2 ++ XL_3) ++ (L_3.take j).flatMap (fun x => partS (d + 2) fs_X2 ver true x)) r w')
      (fun ρ _ => L_3.length - (RowKit.intOf (ρ 75)).toNat) ?_ ?_) ?_
  · refine ⟨0,_,Nat.zero_le _,?_,?_,?_,?_,?_,?_,?_,ha4.eqs (by rw [List.take_zero,List.flatMap_nil,List.append_nil])⟩ <;> simp (maxSteps:=1000000)(disch:=(first|omega|(simp only [qI,qJ,qK]<;>omega)|exact qL _)) only [go_sem,↓reduceIte,n0,reduceCtorEq,n1,n2,n3,n4,n5,i0,i1,i2,i3,i4,i5,i6,i7]
    all_goals rfl
  · rintro ρ w5 ⟨j1,r5,hj1,hI1,hN1,hS1,hr1_1,hr1_0,hr1_5,hr1_6,ha5⟩
    have hB5 : B ≤ w5.heap.size := Nat.le_trans hB ha5.upd.size
    have hv_5 := ha5.upd.blk_some hv hdv
    by_cases hlt1 : j1 < L_3.length
    · obtain ⟨_,b1,o1,x1,ce1,hb1,hok1,hx1,hbl1,hxs1,hxe1,hq1,hRe1⟩ := SlR.get (size := 3) (by decide) hs_3 hlt1
      subst hb1
      have hcat1 : L_3.take (j1 + 1) = L_3.take j1 ++ [L_3[j1]] := List.take_succ_eq_append_getElem hlt1
      have htl1 := take_flatMap_len L_3 (fun x => partS (d + 2) fs_X2 ver true x) (j1 + 1)
      rw [← hXE_3,hcat1,List.flatMap_append,List.flatMap_cons,List.flatMap_nil,List.append_nil] at htl1
      have hge1 := hgl_3.2 _ (List.getElem_mem hlt1)
      generalize L_3[j1] = y1 at *
      have hnx1 := hd b1 hbl1 hok1
      obtain ⟨T1,hTT1⟩ : ∃ T,T = (L_3.take j1).flatMap (fun x => partS (d + 2) fs_X2 ver true x) := ⟨_,rfl⟩
      rw [← hTT1] at ha5 htl1
      have hx1_5 := ha5.upd.blk_some hx1 hnx1
      replace hRe1 : RepS true (d + 2) fs_X2 okM w y1 ce1 := Rep1_part.1 hRe1
      have hfe1 : FitW ver (d + 2) fs_X2 y1 := hge1.2 rfl
      obtain ⟨⟨ge1_0,ge1_1,-⟩,hfue1⟩ := hfe1
      replace ge1_0 : hasS fX2_0 ver = true → FitWF (FitW ver (d + 1)) ver fX2_0 (y1.at 0) := ge1_0
      have hhe1_0 : hasS fX2_0 ver = true := hasS_t (by show (0 : Int) ≤ ver;omega) (by show (-1 : Int) < 0 ∨ ver ≤ (-1 : Int);omega)
      replace ge1_0 := ge1_0 hhe1_0
      replace ge1_1 : hasS fX2_1 ver = true → FitWF (FitW ver (d + 1)) ver fX2_1 (y1.at 1) := ge1_1
      have hhe1_1 : hasS fX2_1 ver = true := hasS_t (by show (0 : Int) ≤ ver;omega) (by show (-1 : Int) < 0 ∨ ver ≤ (-1 : Int);omega)
      replace ge1_1 := ge1_1 hhe1_1
      obtain ⟨cse1,qe1,hcse1,hLe1,hTe1⟩ := hRe1.inv
      obtain ⟨ce1_0,ee1_0,rfl,he1_0,ce1_1,ee1_1,rfl,he1_1,rfl⟩ := hLe1
      replace he1_0 : RepF (RepS true (d + 1)) (szS true (d + 1)) fX2_0 okM w (y1.at 0) ce1_0 := he1_0
      replace he1_1 : RepF (RepS true (d + 1)) (szS true (d + 1)) fX2_1 okM w (y1.at 1) ce1_1 := he1_1
      obtain ⟨pe1_0,rfl,hse1_0⟩ := RepF_listW ge1_0 rfl (by decide) he1_0
      obtain ⟨abe1_0,ace1_0,rfl,_⟩ := SlR.shape hse1_0
      have hgle1_0 := ge1_0.list rfl
      have hlle1_0 := hgle1_0.1
      obtain ⟨pe1_1,rfl,hse1_1⟩ := RepF_listW ge1_1 rfl (by decide) he1_1
      obtain ⟨abe1_1,ace1_1,rfl,_⟩ := SlR.shape hse1_1
      have hgle1_1 := ge1_1.list rfl
      have hlle1_1 := hgle1_1.1
      obtain ⟨qme1,rfl⟩ := hTe1.shape
      subst hcse1
      have hq1_0 : x1.1[o1 + j1 * 3]? = some (.slice abe1_0 (y1.at 0).l.length ace1_0) := hq1 0 (by decide)
      have hq1_1 : x1.1[o1 + (j1 * 3 + 1)]? = some (.slice abe1_1 (y1.at 1).l.length ace1_1) := hq1 1 (by decide)
      have hq1_2 : x1.1[o1 + (j1 * 3 + 2)]? = some (.map qme1) := hq1 2 (by decide)
      obtain ⟨XLe1_0,hXLe1_0⟩ : ∃ X,X = uvarS ((y1.at 0).l.length + 1) := ⟨_,rfl⟩
      obtain ⟨XEe1_0,hXEe1_0⟩ : ∃ X,X = (y1.at 0).l.flatMap (fun x => partS (d + 1) fs_X0 ver true x) := ⟨_,rfl⟩
      obtain ⟨XLe1_1,hXLe1_1⟩ : ∃ X,X = uvarS ((y1.at 1).l.length + 1) := ⟨_,rfl⟩
      obtain ⟨XEe1_1,hXEe1_1⟩ : ∃ X,X = (y1.at 1).l.flatMap (fun x => partS (d + 1) fs_X1 ver true x) := ⟨_,rfl⟩
      obtain ⟨XUe1,hXUe1⟩ : ∃ X,X = uvarS y1.u.length := ⟨_,rfl⟩
      obtain ⟨XTe1,hXTe1⟩ : ∃ X,X = y1.u.flatMap oneTag := ⟨_,rfl⟩
      have hPe1 : partS (d + 2) fs_X2 ver true y1 = ((XLe1_0 ++ XEe1_0) ++ ((XLe1_1 ++ XEe1_1) ++ [])) ++ (XUe1 ++ XTe1) := by rw [hXUe1,hXTe1];exact partS_yes rfl hfue1 (plainL_has (by decide) hhe1_0 ((fieldS_list_t (g := (fun x => partS (d + 1) fs_X0 ver true x)) ge1_0 rfl (by decide) (fun x _ => valueS_part)).trans (by rw [hXLe1_0,hXEe1_0])) (plainL_has (by decide) hhe1_1 ((fieldS_list_t (g := (fun x => partS (d + 1) fs_X1 ver true x)) ge1_1 rfl (by decide) (fun x _ => valueS_part)).trans (by rw [hXLe1_1,hXEe1_1])) rfl))
      rw [hPe1] at htl1
      simp only [List.length_append,List.length_nil] at htl1
      repeat ((first | refine qA rfl ?_|apply qB|refine qC rfl ?_|apply qD|apply qE|apply qF|apply qG|apply qH);try simp (maxSteps:=1000000)(disch:=(first|omega|(simp only [qI,qJ,qK]<;>omega)|exact qL _)) only [go_sem,↓reduceIte,n0,reduceCtorEq,n1,n2,n3,n4,n5,i0,i1,i2,i3,i4,i5,i6,i7,hv_5,hx1_5,hni_3,Int.toNat_natCast,Nat.mul_one,hq1_0,hq1_1,hq1_2,hr1_1,hr1_0,hr1_5,hr1_6,hI1,hN1,hS1])
      refine (AppendCompactArrayLen_fn _ _ _ ha5.own hB5 (y1.at 0).l.length hlle1_0 (by simp only [List.length_append,List.length_nil];omega)).mono ?_
      rintro r6 w6 hc6
      rw [← hXLe1_0] at hc6
      have ha6 := ha5.trans hc6
      have hB6 : B ≤ w6.heap.size := Nat.le_trans hB ha6.upd.size
      have hv_6 := ha6.upd.blk_some hv hdv
      have hx1_6 := ha6.upd.blk_some hx1 hnx1
      repeat ((first | refine qA rfl ?_|apply qB|refine qC rfl ?_|apply qD|apply qE|apply qF|apply qG|apply qH);try simp (maxSteps:=1000000)(disch:=(first|omega|(simp only [qI,qJ,qK]<;>omega)|exact qL _)) only [go_sem,↓reduceIte,n0,reduceCtorEq,n1,n2,n3,n4,n5,i0,i1,i2,i3,i4,i5,i6,i7,hv_6,hx1_6,hni_3,Int.toNat_natCast,Nat.mul_one,hq1_0,hq1_1,hq1_2,hr1_1,hr1_0,hr1_5,hr1_6,hI1,hN1,hS1])
      have hadd2 := ha6
      refine W.exitJ 2 (fun ρ w' => ∃ r,ρ 1 = r ∧ ρ 0 = .pointer (some ⟨vb,0,none⟩) ∧ ρ 5 = .int .i16 ver ∧ ρ 6 = .bool true ∧ ρ 75 = .int .i64 j1 ∧ ρ 74 = .int .i64 L_3.length ∧ ρ 10 = .slice (some ⟨b1,o1,none⟩) L_3.length ac_3 ∧ ρ 12 = .pointer (some ⟨b1,o1 + j1 * 3,none⟩) ∧ AppR 5 B w v s (([] ++ X_0 ++ X_1 ++ X_2 ++ XL_3 ++ T1 ++ XLe1_0) ++ XEe1_0) r w')
        (W.loop (fun ρ w' => ∃ (j : Nat) (r : Value),j ≤ (y1.at 0).l.length ∧ ρ 96 = .int .i64 j ∧ ρ 95 = .int .i64 (y1.at 0).l.length ∧ ρ 13 = .slice abe1_0 (y1.at 0).l.length ace1_0 ∧ ρ 1 = r ∧ ρ 0 = .pointer (some ⟨vb,0,none⟩) ∧ ρ 5 = .int .i16 ver ∧ ρ 6 = .bool true ∧ ρ 75 = .int .i64 j1 ∧ ρ 74 = .int .i64 L_3.length ∧ ρ 10 = .slice (some ⟨b1,o1,none⟩) L_3.length ac_3 ∧ ρ 12 = .pointer (some ⟨b1,o1 + j1 * 3,none⟩) ∧ AppR 5 B w v s (([] ++ X_0 ++ X_1 ++ X_2 ++ XL_3 ++ T1 ++ XLe1_0) ++ ((y1.at 0).l.take j).flatMap (fun x => partS (d + 1) fs_X0 ver true x)) r w')
          (fun ρ _ => (y1.at 0).l.length - (RowKit.intOf (ρ 96)).toNat) ?_ ?_) ?_
      · refine ⟨0,_,Nat.zero_le _,?_,?_,?_,?_,?_,?_,?_,?_,?_,?_,?_,ha6.eqs (by rw [List.take_zero,List.flatMap_nil,List.append_nil])⟩ <;> simp (maxSteps:=1000000)(disch:=(first|omega|(simp only [qI,qJ,qK]<;>omega)|exact qL _)) only [go_sem,↓reduceIte,n0,reduceCtorEq,n1,n2,n3,n4,n5,i0,i1,i2,i3,i4,i5,i6,i7,hr1_1,hr1_0,hr1_5,hr1_6,hI1,hN1,hS1]
        all_goals rfl
      · rintro ρ w7 ⟨j2,r7,hj2,hI2,hN2,hS2,hr1_2,hr2_0,hr2_5,hr2_6,hr2_75,hr2_74,hr2_10,hr2_12,ha7⟩
        have hB7 : B ≤ w7.heap.size := Nat.le_trans hB ha7.upd.size
        have hv_7 := ha7.upd.blk_some hv hdv
        have hx1_7 := ha7.upd.blk_some hx1 hnx1
        by_cases hlt2 : j2 < (y1.at 0).l.length
        · obtain ⟨_,b2,o2,x2,ce2,hb2,hok2,hx2,hbl2,hxs2,hxe2,hq2,hRe2⟩ := SlR.get (size := 3) (by decide) hse1_0 hlt2
          subst hb2
          have hcat2 : (y1.at 0).l.take (j2 + 1) = (y1.at 0).l.take j2 ++ [(y1.at 0).l[j2]] := List.take_succ_eq_append_getElem hlt2
          have htl2 := take_flatMap_len (y1.at 0).l (fun x => partS (d + 1) fs_X0 ver true x) (j2 + 1)
          rw [← hXEe1_0,hcat2,List.flatMap_append,List.flatMap_cons,List.flatMap_nil,List.append_nil] at htl2
          have hge2 := hgle1_0.2 _ (List.getElem_mem hlt2)
          generalize (y1.at 0).l[j2] = y2 at *
          have hnx2 := hd b2 hbl2 hok2
          obtain ⟨T2,hTT2⟩ : ∃ T,T = ((y1.at 0).l.take j2).flatMap (fun x => partS (d + 1) fs_X0 ver true x) := ⟨_,rfl⟩
          rw [← hTT2] at ha7 htl2
          have hx2_7 := ha7.upd.blk_some hx2 hnx2
          replace hRe2 : RepS true (d + 1) fs_X0 okM w y2 ce2 := Rep1_part.1 hRe2
          have hfe2 : FitW ver (d + 1) fs_X0 y2 := hge2.2 rfl
          obtain ⟨⟨ge2_0,ge2_1,-⟩,hfue2⟩ := hfe2
          replace ge2_0 : hasS fX0_0 ver = true → FitWF (FitW ver d) ver fX0_0 (y2.at 0) := ge2_0
          have hhe2_0 : hasS fX0_0 ver = true := hasS_t (by show (0 : Int) ≤ ver;omega) (by show (-1 : Int) < 0 ∨ ver ≤ (-1 : Int);omega)
          replace ge2_0 := ge2_0 hhe2_0
          replace ge2_1 : hasS fX0_1 ver = true → FitWF (FitW ver d) ver fX0_1 (y2.at 1) := ge2_1
          have hhe2_1 : hasS fX0_1 ver = true := hasS_t (by show (0 : Int) ≤ ver;omega) (by show (-1 : Int) < 0 ∨ ver ≤ (-1 : Int);omega)
          replace ge2_1 := ge2_1 hhe2_1
          obtain ⟨cse2,qe2,hcse2,hLe2,hTe2⟩ := hRe2.inv
          obtain ⟨ce2_0,ee2_0,rfl,he2_0,ce2_1,ee2_1,rfl,he2_1,rfl⟩ := hLe2
          replace he2_0 : RepF (RepS true d) (szS true d) fX0_0 okM w (y2.at 0) ce2_0 := he2_0
          replace he2_1 : RepF (RepS true d) (szS true d) fX0_1 okM w (y2.at 1) ce2_1 := he2_1
          obtain rfl := (RepF_text rfl (by decide)).1 he2_0
          obtain ⟨pe2_1,rfl,hpe2_1⟩ := (RepF_ptr rfl (by decide)).1 he2_1
          obtain ⟨qme2,rfl⟩ := hTe2.shape
          subst hcse2
          have hq2_0 : x2.1[o2 + j2 * 3]? = some (strV (y2.at 0).s) := hq2 0 (by decide)
          have hq2_1 : x2.1[o2 + (j2 * 3 + 1)]? = some (pe2_1) := hq2 1 (by decide)
          have hq2_2 : x2.1[o2 + (j2 * 3 + 2)]? = some (.map qme2) := hq2 2 (by decide)
          obtain ⟨Xe2_0,hXXe2_0⟩ : ∃ X,X = uvarS ((y2.at 0).s.length + 1) ++ (y2.at 0).s := ⟨_,rfl⟩
          obtain ⟨Xe2_1,hXXe2_1⟩ : ∃ X,X = if (y2.at 1).null = true then [0] else uvarS ((y2.at 1).s.length + 1) ++ (y2.at 1).s := ⟨_,rfl⟩
          obtain ⟨XUe2,hXUe2⟩ : ∃ X,X = uvarS y2.u.length := ⟨_,rfl⟩
          obtain ⟨XTe2,hXTe2⟩ : ∃ X,X = y2.u.flatMap oneTag := ⟨_,rfl⟩
          have hPe2 : partS (d + 1) fs_X0 ver true y2 = (Xe2_0 ++ (Xe2_1 ++ [])) ++ (XUe2 ++ XTe2) := by rw [hXUe2,hXTe2];exact partS_yes rfl hfue2 (plainL_has (by decide) hhe2_0 ((fieldS_text_t ge2_0 rfl (by decide)).trans hXXe2_0.symm) (plainL_has (by decide) hhe2_1 ((fieldS_ptr_t ge2_1 rfl (by decide)).trans hXXe2_1.symm) rfl))
          rw [hPe2] at htl2
          simp only [List.length_append,List.length_nil] at htl2
          repeat ((first | refine qA rfl ?_|apply qB|refine qC rfl ?_|apply qD|apply qE|apply qF|apply qG|apply qH);try simp (maxSteps:=1000000)(disch:=(first|omega|(simp only [qI,qJ,qK]<;>omega)|exact qL _)) only [go_sem,↓reduceIte,n0,reduceCtorEq,n1,n2,n3,n4,n5,i0,i1,i2,i3,i4,i5,i6,i7,hv_7,hx1_7,hx2_7,hni_3,Int.toNat_natCast,Nat.mul_one,hq1_0,hq1_1,hq1_2,hq2_0,hq2_1,hq2_2,hr1_2,hr2_0,hr2_5,hr2_6,hr2_75,hr2_74,hr2_10,hr2_12,hI2,hN2,hS2])
          refine (AppendCompactString_fn _ _ _ ha7.own hB7 (y2.at 0).s (ge2_0.text (.inl rfl)) (by simp only [List.length_append,List.length_nil];omega)).mono ?_
          rintro r8 w8 hc8
          rw [← hXXe2_0] at hc8
          have ha8 := ha7.trans hc8
          have hB8 : B ≤ w8.heap.size := Nat.le_trans hB ha8.upd.size
          have hv_8 := ha8.upd.blk_some hv hdv
          have hx1_8 := ha8.upd.blk_some hx1 hnx1
          have hx2_8 := ha8.upd.blk_some hx2 hnx2
          repeat ((first | refine qA rfl ?_|apply qB|refine qC rfl ?_|apply qD|apply qE|apply qF|apply qG|apply qH);try simp (maxSteps:=1000000)(disch:=(first|omega|(simp only [qI,qJ,qK]<;>omega)|exact qL _)) only [go_sem,↓reduceIte,n0,reduceCtorEq,n1,n2,n3,n4,n5,i0,i1,i2,i3,i4,i5,i6,i7,hv_8,hx1_8,hx2_8,hni_3,Int.toNat_natCast,Nat.mul_one,hq1_0,hq1_1,hq1_2,hq2_0,hq2_1,hq2_2,hr1_2,hr2_0,hr2_5,hr2_6,hr2_75,hr2_74,hr2_10,hr2_12,hI2,hN2,hS2])
          refine (AppendCompactNullableString_fn (ok := okM) _ _ _ ha8.own hB8 _ (y2.at 1).null (y2.at 1).s (hpe2_1.keep (ha8.upd.keeps hd)) (ge2_1.text (.inl rfl)) (by simp only [List.length_append,List.length_nil];omega)).mono ?_
          rintro r9 w9 hc9
          rw [← hXXe2_1] at hc9
          have ha9 := ha8.trans hc9
          have hB9 : B ≤ w9.heap.size := Nat.le_trans hB ha9.upd.size
          have hv_9 := ha9.upd.blk_some hv hdv
          have hx1_9 := ha9.upd.blk_some hx1 hnx1
          have hx2_9 := ha9.upd.blk_some hx2 hnx2
          repeat ((first | refine qA rfl ?_|apply qB|refine qC rfl ?_|apply qD|apply qE|apply qF|apply qG|apply qH);try simp (maxSteps:=1000000)(disch:=(first|omega|(simp only [qI,qJ,qK]<;>omega)|exact qL _)) only [go_sem,↓reduceIte,n0,reduceCtorEq,n1,n2,n3,n4,n5,i0,i1,i2,i3,i4,i5,i6,i7,hv_9,hx1_9,hx2_9,hni_3,Int.toNat_natCast,Nat.mul_one,hq1_0,hq1_1,hq1_2,hq2_0,hq2_1,hq2_2,hr1_2,hr2_0,hr2_5,hr2_6,hr2_75,hr2_74,hr2_10,hr2_12,hI2,hN2,hS2])
          have hTk9 : TagsM (OkS okM w.heap.size) w9 (.map qme2) y2.u := (hTe2.weaken fun b h1 h2 => ⟨h2,h1⟩).keep (ha9.upd.keeps fun b hb hk => hd b hb hk.1)
          refine (TagsLen_fn (ok := OkS okM w.heap.size) w9 hx2_9 (to := o2 + (j2 * 3 + 2)) hq2_2 hTk9).mono ?_
          rintro _ w9' ⟨rfl,rfl⟩
          have hul9 : y2.u.length ≤ 32767 := hfue2.1
          have ew9 : IntKind.u32.wrap (y2.u.length : Int) = y2.u.length := u32_wrap (by omega)
          have ez9 : IntKind.u32.wrap (0 + (y2.u.length : Int)) = y2.u.length := by rw [Int.zero_add,u32_wrap (by omega)]
          simp (maxSteps:=1000000)(disch:=(first|omega|(simp only [qI,qJ,qK]<;>omega)|exact qL _)) only [go_sem,↓reduceIte,n0,reduceCtorEq,n1,n2,n3,n4,n5,i0,i1,i2,i3,i4,i5,i6,i7,hv_9,hx1_9,hx2_9,hni_3,Int.toNat_natCast,Nat.mul_one,hq1_0,hq1_1,hq1_2,hq2_0,hq2_1,hq2_2,hr1_2,hr2_0,hr2_5,hr2_6,hr2_75,hr2_74,hr2_10,hr2_12,hI2,hN2,hS2,ew9,ez9]
          refine (AppendUvarint_fn _ _ _ ha9.own hB9 y2.u.length (by omega) (by simp only [List.length_append,List.length_nil];omega)).mono ?_
          rintro r10 w10 hc10
          rw [← hXUe2] at hc10
          have ha10 := ha9.trans hc10
          have hB10 : B ≤ w10.heap.size := Nat.le_trans hB ha10.upd.size
          have hv_10 := ha10.upd.blk_some hv hdv
          have hx1_10 := ha10.upd.blk_some hx1 hnx1
          have hx2_10 := ha10.upd.blk_some hx2 hnx2
          repeat ((first | refine qA rfl ?_|apply qB|refine qC rfl ?_|apply qD|apply qE|apply qF|apply qG|apply qH);try simp (maxSteps:=1000000)(disch:=(first|omega|(simp only [qI,qJ,qK]<;>omega)|exact qL _)) only [go_sem,↓reduceIte,n0,reduceCtorEq,n1,n2,n3,n4,n5,i0,i1,i2,i3,i4,i5,i6,i7,hv_10,hx1_10,hx2_10,hni_3,Int.toNat_natCast,Nat.mul_one,hq1_0,hq1_1,hq1_2,hq2_0,hq2_1,hq2_2,hr1_2,hr2_0,hr2_5,hr2_6,hr2_75,hr2_74,hr2_10,hr2_12,hI2,hN2,hS2])
          have hTk10 : TagsM (OkS okM w.heap.size) w10 (.map qme2) y2.u := (hTe2.weaken fun b h1 h2 => ⟨h2,h1⟩).keep (ha10.upd.keeps fun b hb hk => hd b hb hk.1)
          refine (AppendEach_fn (ok := OkS okM w.heap.size) _ _ _ ha10.own hB10 hx2_10 (to := o2 + (j2 * 3 + 2)) hq2_2 hTk10 (rising_keys hfue2) hfue2.1 (tags_small hfue2 hTk10) (hdK ha10) (ownK ha10 (blk_lt hx2) hnx2) (by simp only [List.length_append,List.length_nil];omega)).mono ?_
          rintro r11 w11 hc11
          rw [← hXTe2] at hc11
          have ha11 := ha10.trans hc11
          have hB11 : B ≤ w11.heap.size := Nat.le_trans hB ha11.upd.size
          have hv_11 := ha11.upd.blk_some hv hdv
          have hx1_11 := ha11.upd.blk_some hx1 hnx1
          have hx2_11 := ha11.upd.blk_some hx2 hnx2
          repeat ((first | refine qA rfl ?_|apply qB|refine qC rfl ?_|apply qD|apply qE|apply qF|apply qG|apply qH);try simp (maxSteps:=1000000)(disch:=(first|omega|(simp only [qI,qJ,qK]<;>omega)|exact qL _)) only [go_sem,↓reduceIte,n0,reduceCtorEq,n1,n2,n3,n4,n5,i0,i1,i2,i3,i4,i5,i6,i7,hr1_2,hr2_0,hr2_5,hr2_6,hr2_75,hr2_74,hr2_10,hr2_12,hI2,hN2,hS2])
          refine ⟨⟨j2 + 1,_,by omega,rfl,rfl,ha11.eqs ?_⟩,?_⟩
          · rw [hcat2,List.flatMap_append,List.flatMap_cons,List.flatMap_nil,List.append_nil,← hTT2,hPe2];simp only [List.append_assoc,List.append_nil,List.nil_append]
          · simp only [RowKit.intOf];omega
        · have hjl2 : j2 = (y1.at 0).l.length := by omega
          subst hjl2
          rw [List.take_length,← hXEe1_0] at ha7
          repeat ((first | refine qA rfl ?_|apply qB|refine qC rfl ?_|apply qD|apply qE|apply qF|apply qG|apply qH);try simp (maxSteps:=1000000)(disch:=(first|omega|(simp only [qI,qJ,qK]<;>omega)|exact qL _)) only [go_sem,↓reduceIte,n0,reduceCtorEq,n1,n2,n3,n4,n5,i0,i1,i2,i3,i4,i5,i6,i7,hI2,hN2])
          exact ⟨_,hr1_2,hr2_0,hr2_5,hr2_6,hr2_75,hr2_74,hr2_10,hr2_12,ha7⟩
      · rintro ρ w12 ⟨r12,hr1_3,hr3_0,hr3_5,hr3_6,hr3_75,hr3_74,hr3_10,hr3_12,ha12⟩
        have hB12 : B ≤ w12.heap.size := Nat.le_trans hB ha12.upd.size
        have hv_12 := ha12.upd.blk_some hv hdv
        have hx1_12 := ha12.upd.blk_some hx1 hnx1
        repeat ((first | refine qA rfl ?_|apply qB|refine qC rfl ?_|apply qD|apply qE|apply qF|apply qG|apply qH);try simp (maxSteps:=1000000)(disch:=(first|omega|(simp only [qI,qJ,qK]<;>omega)|exact qL _)) only [go_sem,↓reduceIte,n0,reduceCtorEq,n1,n2,n3,n4,n5,i0,i1,i2,i3,i4,i5,i6,i7,hv_12,hx1_12,hni_3,Int.toNat_natCast,Nat.mul_one,hq1_0,hq1_1,hq1_2,hr1_3,hr3_0,hr3_5,hr3_6,hr3_75,hr3_74,hr3_10,hr3_12])
        refine (AppendCompactArrayLen_fn _ _ _ ha12.own hB12 (y1.at 1).l.length hlle1_1 (by simp only [List.length_append,List.length_nil];omega)).mono ?_
        rintro r13 w13 hc13
        rw [← hXLe1_1] at hc13
        have ha13 := ha12.trans hc13
        have hB13 : B ≤ w13.heap.size := Nat.le_trans hB ha13.upd.size
        have hv_13 := ha13.upd.blk_some hv hdv
        have hx1_13 := ha13.upd.blk_some hx1 hnx1
        repeat ((first | refine qA rfl ?_|apply qB|refine qC rfl ?_|apply qD|apply qE|apply qF|apply qG|apply qH);try simp (maxSteps:=1000000)(disch:=(first|omega|(simp only [qI,qJ,qK]<;>omega)|exact qL _)) only [go_sem,↓reduceIte,n0,reduceCtorEq,n1,n2,n3,n4,n5,i0,i1,i2,i3,i4,i5,i6,i7,hv_13,hx1_13,hni_3,Int.toNat_natCast,Nat.mul_one,hq1_0,hq1_1,hq1_2,hr1_3,hr3_0,hr3_5,hr3_6,hr3_75,hr3_74,hr3_10,hr3_12])
        have hadd4 := ha13
        refine W.exitJ 4 (fun ρ w' => ∃ r,ρ 1 = r ∧ ρ 0 = .pointer (some ⟨vb,0,none⟩) ∧ ρ 5 = .int .i16 ver ∧ ρ 6 = .bool true ∧ ρ 75 = .int .i64 j1 ∧ ρ 74 = .int .i64 L_3.length ∧ ρ 10 = .slice (some ⟨b1,o1,none⟩) L_3.length ac_3 ∧ ρ 12 = .pointer (some ⟨b1,o1 + j1 * 3,none⟩) ∧ AppR 5 B w v s (([] ++ X_0 ++ X_1 ++ X_2 ++ XL_3 ++ T1 ++ XLe1_0 ++ XEe1_0 ++ XLe1_1) ++ XEe1_1) r w')
          (W.loop (fun ρ w' => ∃ (j : Nat) (r : Value),j ≤ (y1.at 1).l.length ∧ ρ 154 = .int .i64 j ∧ ρ 153 = .int .i64 (y1.at 1).l.length ∧ ρ 18 = .slice abe1_1 (y1.at 1).l.length ace1_1 ∧ ρ 1 = r ∧ ρ 0 = .pointer (some ⟨vb,0,none⟩) ∧ ρ 5 = .int .i16 ver ∧ ρ 6 = .bool true ∧ ρ 75 = .int .i64 j1 ∧ ρ 74 = .int .i64 L_3.length ∧ ρ 10 = .slice (some ⟨b1,o1,none⟩) L_3.length ac_3 ∧ ρ 12 = .pointer (some ⟨b1,o1 + j1 * 3,none⟩) ∧ AppR 5 B w v s (([] ++ X_0 ++ X_1 ++ X_2 ++ XL_3 ++ T1 ++ XLe1_0 ++ XEe1_0 ++ XLe1_1) ++ ((y1.at 1).l.take j).flatMap (fun x => partS (d + 1) fs_X1 ver true x)) r w')
            (fun ρ _ => (y1.at 1).l.length - (RowKit.intOf (ρ 154)).toNat) ?_ ?_) ?_
        · refine ⟨0,_,Nat.zero_le _,?_,?_,?_,?_,?_,?_,?_,?_,?_,?_,?_,ha13.eqs (by rw [List.take_zero,List.flatMap_nil,List.append_nil])⟩ <;> simp (maxSteps:=1000000)(disch:=(first|omega|(simp only [qI,qJ,qK]<;>omega)|exact qL _)) only [go_sem,↓reduceIte,n0,reduceCtorEq,n1,n2,n3,n4,n5,i0,i1,i2,i3,i4,i5,i6,i7,hr1_3,hr3_0,hr3_5,hr3_6,hr3_75,hr3_74,hr3_10,hr3_12]
          all_goals rfl
        · rintro ρ w14 ⟨j4,r14,hj4,hI4,hN4,hS4,hr1_4,hr4_0,hr4_5,hr4_6,hr4_75,hr4_74,hr4_10,hr4_12,ha14⟩
          have hB14 : B ≤ w14.heap.size := Nat.le_trans hB ha14.upd.size
          have hv_14 := ha14.upd.blk_some hv hdv
          have hx1_14 := ha14.upd.blk_some hx1 hnx1
          by_cases hlt4 : j4 < (y1.at 1).l.length
          · obtain ⟨_,b4,o4,x4,ce4,hb4,hok4,hx4,hbl4,hxs4,hxe4,hq4,hRe4⟩ := SlR.get (size := 3) (by decide) hse1_1 hlt4
            subst hb4
            have hcat4 : (y1.at 1).l.take (j4 + 1) = (y1.at 1).l.take j4 ++ [(y1.at 1).l[j4]] := List.take_succ_eq_append_getElem hlt4
            have htl4 := take_flatMap_len (y1.at 1).l (fun x => partS (d + 1) fs_X1 ver true x) (j4 + 1)
            rw [← hXEe1_1,hcat4,List.flatMap_append,List.flatMap_cons,List.flatMap_nil,List.append_nil] at htl4
            have hge4 := hgle1_1.2 _ (List.getElem_mem hlt4)
            generalize (y1.at 1).l[j4] = y4 at *
            have hnx4 := hd b4 hbl4 hok4
            obtain ⟨T4,hTT4⟩ : ∃ T,T = ((y1.at 1).l.take j4).flatMap (fun x => partS (d + 1) fs_X1 ver true x) := ⟨_,rfl⟩
            rw [← hTT4] at ha14 htl4
            have hx4_14 := ha14.upd.blk_some hx4 hnx4
            replace hRe4 : RepS true (d + 1) fs_X1 okM w y4 ce4 := Rep1_part.1 hRe4
            have hfe4 : FitW ver (d + 1) fs_X1 y4 := hge4.2 rfl
            obtain ⟨⟨ge4_0,ge4_1,-⟩,hfue4⟩ := hfe4
            replace ge4_0 : hasS fX1_0 ver = true → FitWF (FitW ver d) ver fX1_0 (y4.at 0) := ge4_0
            have hhe4_0 : hasS fX1_0 ver = true := hasS_t (by show (0 : Int) ≤ ver;omega) (by show (-1 : Int) < 0 ∨ ver ≤ (-1 : Int);omega)
            replace ge4_0 := ge4_0 hhe4_0
            replace ge4_1 : hasS fX1_1 ver = true → FitWF (FitW ver d) ver fX1_1 (y4.at 1) := ge4_1
            have hhe4_1 : hasS fX1_1 ver = true := hasS_t (by show (0 : Int) ≤ ver;omega) (by show (-1 : Int) < 0 ∨ ver ≤ (-1 : Int);omega)
            replace ge4_1 := ge4_1 hhe4_1
            obtain ⟨cse4,qe4,hcse4,hLe4,hTe4⟩ := hRe4.inv
            obtain ⟨ce4_0,ee4_0,rfl,he4_0,ce4_1,ee4_1,rfl,he4_1,rfl⟩ := hLe4
            replace he4_0 : RepF (RepS true d) (szS true d) fX1_0 okM w (y4.at 0) ce4_0 := he4_0
            replace he4_1 : RepF (RepS true d) (szS true d) fX1_1 okM w (y4.at 1) ce4_1 := he4_1
            obtain rfl := (RepF_text rfl (by decide)).1 he4_0
            obtain rfl := (RepF_num (by decide)).1 he4_1
            obtain ⟨qme4,rfl⟩ := hTe4.shape
            subst hcse4
            have hq4_0 : x4.1[o4 + j4 * 3]? = some (strV (y4.at 0).s) := hq4 0 (by decide)
            have hq4_1 : x4.1[o4 + (j4 * 3 + 1)]? = some (.float .f64 ((y4.at 1).n % 18446744073709551616).toNat) := hq4 1 (by decide)
            have hq4_2 : x4.1[o4 + (j4 * 3 + 2)]? = some (.map qme4) := hq4 2 (by decide)
            obtain ⟨Xe4_0,hXXe4_0⟩ : ∃ X,X = uvarS ((y4.at 0).s.length + 1) ++ (y4.at 0).s := ⟨_,rfl⟩
            obtain ⟨Xe4_1,hXXe4_1⟩ : ∃ X,X = fixedS (y4.at 1).n 8 := ⟨_,rfl⟩
            obtain ⟨XUe4,hXUe4⟩ : ∃ X,X = uvarS y4.u.length := ⟨_,rfl⟩
            obtain ⟨XTe4,hXTe4⟩ : ∃ X,X = y4.u.flatMap oneTag := ⟨_,rfl⟩
            have hPe4 : partS (d + 1) fs_X1 ver true y4 = (Xe4_0 ++ (Xe4_1 ++ [])) ++ (XUe4 ++ XTe4) := by rw [hXUe4,hXTe4];exact partS_yes rfl hfue4 (plainL_has (by decide) hhe4_0 ((fieldS_text_t ge4_0 rfl (by decide)).trans hXXe4_0.symm) (plainL_has (by decide) hhe4_1 ((fieldS_num 6 rfl (by decide)).trans hXXe4_1.symm) rfl))
            rw [hPe4] at htl4
            simp only [List.length_append,List.length_nil] at htl4
            repeat ((first | refine qA rfl ?_|apply qB|refine qC rfl ?_|apply qD|apply qE|apply qF|apply qG|apply qH);try simp (maxSteps:=1000000)(disch:=(first|omega|(simp only [qI,qJ,qK]<;>omega)|exact qL _)) only [go_sem,↓reduceIte,n0,reduceCtorEq,n1,n2,n3,n4,n5,i0,i1,i2,i3,i4,i5,i6,i7,hv_14,hx1_14,hx4_14,hni_3,Int.toNat_natCast,Nat.mul_one,hq1_0,hq1_1,hq1_2,hq4_0,hq4_1,hq4_2,hr1_4,hr4_0,hr4_5,hr4_6,hr4_75,hr4_74,hr4_10,hr4_12,hI4,hN4,hS4])
            refine (AppendCompactString_fn _ _ _ ha14.own hB14 (y4.at 0).s (ge4_0.text (.inl rfl)) (by simp only [List.length_append,List.length_nil];omega)).mono ?_
            rintro r15 w15 hc15
            rw [← hXXe4_0] at hc15
            have ha15 := ha14.trans hc15
            have hB15 : B ≤ w15.heap.size := Nat.le_trans hB ha15.upd.size
            have hv_15 := ha15.upd.blk_some hv hdv
            have hx1_15 := ha15.upd.blk_some hx1 hnx1
            have hx4_15 := ha15.upd.blk_some hx4 hnx4
            repeat ((first | refine qA rfl ?_|apply qB|refine qC rfl ?_|apply qD|apply qE|apply qF|apply qG|apply qH);try simp (maxSteps:=1000000)(disch:=(first|omega|(simp only [qI,qJ,qK]<;>omega)|exact qL _)) only [go_sem,↓reduceIte,n0,reduceCtorEq,n1,n2,n3,n4,n5,i0,i1,i2,i3,i4,i5,i6,i7,hv_15,hx1_15,hx4_15,hni_3,Int.toNat_natCast,Nat.mul_one,hq1_0,hq1_1,hq1_2,hq4_0,hq4_1,hq4_2,hr1_4,hr4_0,hr4_5,hr4_6,hr4_75,hr4_74,hr4_10,hr4_12,hI4,hN4,hS4])
            refine (AppendFloat64_fn _ _ _ ha15.own hB15 _ (by simp only [List.length_append,List.length_nil];omega)).mono ?_
            rintro r16 w16 hc16
            rw [← hXXe4_1] at hc16
            have ha16 := ha15.trans hc16
            have hB16 : B ≤ w16.heap.size := Nat.le_trans hB ha16.upd.size
            have hv_16 := ha16.upd.blk_some hv hdv
            have hx1_16 := ha16.upd.blk_some hx1 hnx1
            have hx4_16 := ha16.upd.blk_some hx4 hnx4
            repeat ((first | refine qA rfl ?_|apply qB|refine qC rfl ?_|apply qD|apply qE|apply qF|apply qG|apply qH);try simp (maxSteps:=1000000)(disch:=(first|omega|(simp only [qI,qJ,qK]<;>omega)|exact qL _)) only [go_sem,↓reduceIte,n0,reduceCtorEq,n1,n2,n3,n4,n5,i0,i1,i2,i3,i4,i5,i6,i7,hv_16,hx1_16,hx4_16,hni_3,Int.toNat_natCast,Nat.mul_one,hq1_0,hq1_1,hq1_2,hq4_0,hq4_1,hq4_2,hr1_4,hr4_0,hr4_5,hr4_6,hr4_75,hr4_74,hr4_10,hr4_12,hI4,hN4,hS4])
            have hTk16 : TagsM (OkS okM w.heap.size) w16 (.map qme4) y4.u := (hTe4.weaken fun b h1 h2 => ⟨h2,h1⟩).keep (ha16.upd.keeps fun b hb hk => hd b hb hk.1)
            refine (TagsLen_fn (ok := OkS okM w.heap.size) w16 hx4_16 (to := o4 + (j4 * 3 + 2)) hq4_2 hTk16).mono ?_
            rintro _ w16' ⟨rfl,rfl⟩
            have hul16 : y4.u.length ≤ 32767 := hfue4.1
            have ew16 : IntKind.u32.wrap (y4.u.length : Int) = y4.u.length := u32_wrap (by omega)
            have ez16 : IntKind.u32.wrap (0 + (y4.u.length : Int)) = y4.u.length := by rw [Int.zero_add,u32_wrap (by omega)]
            simp (maxSteps:=1000000)(disch:=(first|omega|(simp only [qI,qJ,qK]<;>omega)|exact qL _)) only [go_sem,↓reduceIte,n0,reduceCtorEq,n1,n2,n3,n4,n5,i0,i1,i2,i3,i4,i5,i6,i7,hv_16,hx1_16,hx4_16,hni_3,Int.toNat_natCast,Nat.mul_one,hq1_0,hq1_1,hq1_2,hq4_0,hq4_1,hq4_2,hr1_4,hr4_0,hr4_5,hr4_6,hr4_75,hr4_74,hr4_10,hr4_12,hI4,hN4,hS4,ew16,ez16]
            refine (AppendUvarint_fn _ _ _ ha16.own hB16 y4.u.length (by omega) (by simp only [List.length_append,List.length_nil];omega)).mono ?_
            rintro r17 w17 hc17
            rw [← hXUe4] at hc17
            have ha17 := ha16.trans hc17
            have hB17 : B ≤ w17.heap.size := Nat.le_trans hB ha17.upd.size
            have hv_17 := ha17.upd.blk_some hv hdv
            have hx1_17 := ha17.upd.blk_some hx1 hnx1
            have hx4_17 := ha17.upd.blk_some hx4 hnx4
            repeat ((first | refine qA rfl ?_|apply qB|refine qC rfl ?_|apply qD|apply qE|apply qF|apply qG|apply qH);try simp (maxSteps:=1000000)(disch:=(first|omega|(simp only [qI,qJ,qK]<;>omega)|exact qL _)) only [go_sem,↓reduceIte,n0,reduceCtorEq,n1,n2,n3,n4,n5,i0,i1,i2,i3,i4,i5,i6,i7,hv_17,hx1_17,hx4_17,hni_3,Int.toNat_natCast,Nat.mul_one,hq1_0,hq1_1,hq1_2,hq4_0,hq4_1,hq4_2,hr1_4,hr4_0,hr4_5,hr4_6,hr4_75,hr4_74,hr4_10,hr4_12,hI4,hN4,hS4])
            have hTk17 : TagsM (OkS okM w.heap.size) w17 (.map qme4) y4.u := (hTe4.weaken fun b h1 h2 => ⟨h2,h1⟩).keep (ha17.upd.keeps fun b hb hk => hd b hb hk.1)
            refine (AppendEach_fn (ok := OkS okM w.heap.size) _ _ _ ha17.own hB17 hx4_17 (to := o4 + (j4 * 3 + 2)) hq4_2 hTk17 (rising_keys hfue4) hfue4.1 (tags_small hfue4 hTk17) (hdK ha17) (ownK ha17 (blk_lt hx4) hnx4) (by simp only [List.length_append,List.length_nil];omega)).mono ?_
            rintro r18 w18 hc18
            rw [← hXTe4] at hc18
            have ha18 := ha17.trans hc18
            have hB18 : B ≤ w18.heap.size := Nat.le_trans hB ha18.upd.size
            have hv_18 := ha18.upd.blk_some hv hdv
            have hx1_18 := ha18.upd.blk_some hx1 hnx1
            have hx4_18 := ha18.upd.blk_some hx4 hnx4
            repeat ((first | refine qA rfl ?_|apply qB|refine qC rfl ?_|apply qD|apply qE|apply qF|apply qG|apply qH);try simp (maxSteps:=1000000)(disch:=(first|omega|(simp only [qI,qJ,qK]<;>omega)|exact qL _)) only [go_sem,↓reduceIte,n0,reduceCtorEq,n1,n2,n3,n4,n5,i0,i1,i2,i3,i4,i5,i6,i7,hr1_4,hr4_0,hr4_5,hr4_6,hr4_75,hr4_74,hr4_10,hr4_12,hI4,hN4,hS4])
            refine ⟨⟨j4 + 1,_,by omega,rfl,rfl,ha18.eqs ?_⟩,?_⟩
            · rw [hcat4,List.flatMap_append,List.flatMap_cons,List.flatMap_nil,List.append_nil,← hTT4,hPe4];simp only [List.append_assoc,List.append_nil,List.nil_append]
            · simp only [RowKit.intOf];omega
          · have hjl4 : j4 = (y1.at 1).l.length := by omega
            subst hjl4
            rw [List.take_length,← hXEe1_1] at ha14
            repeat ((first | refine qA rfl ?_|apply qB|refine qC rfl ?_|apply qD|apply qE|apply qF|apply qG|apply qH);try simp (maxSteps:=1000000)(disch:=(first|omega|(simp only [qI,qJ,qK]<;>omega)|exact qL _)) only [go_sem,↓reduceIte,n0,reduceCtorEq,n1,n2,n3,n4,n5,i0,i1,i2,i3,i4,i5,i6,i7,hI4,hN4])
            exact ⟨_,hr1_4,hr4_0,hr4_5,hr4_6,hr4_75,hr4_74,hr4_10,hr4_12,ha14⟩
        · rintro ρ w19 ⟨r19,hr1_5,hr5_0,hr5_5,hr5_6,hr5_75,hr5_74,hr5_10,hr5_12,ha19⟩
          have hB19 : B ≤ w19.heap.size := Nat.le_trans hB ha19.upd.size
          have hv_19 := ha19.upd.blk_some hv hdv
          have hx1_19 := ha19.upd.blk_some hx1 hnx1
          repeat ((first | refine qA rfl ?_|apply qB|refine qC rfl ?_|apply qD|apply qE|apply qF|apply qG|apply qH);try simp (maxSteps:=1000000)(disch:=(first|omega|(simp only [qI,qJ,qK]<;>omega)|exact qL _)) only [go_sem,↓reduceIte,n0,reduceCtorEq,n1,n2,n3,n4,n5,i0,i1,i2,i3,i4,i5,i6,i7,hv_19,hx1_19,hni_3,Int.toNat_natCast,Nat.mul_one,hq1_0,hq1_1,hq1_2,hr1_5,hr5_0,hr5_5,hr5_6,hr5_75,hr5_74,hr5_10,hr5_12])
          have hTk19 : TagsM (OkS okM w.heap.size) w19 (.map qme1) y1.u := (hTe1.weaken fun b h1 h2 => ⟨h2,h1⟩).keep (ha19.upd.keeps fun b hb hk => hd b hb hk.1)
          refine (TagsLen_fn (ok := OkS okM w.heap.size) w19 hx1_19 (to := o1 + (j1 * 3 + 2)) hq1_2 hTk19).mono ?_
          rintro _ w19' ⟨rfl,rfl⟩
          have hul19 : y1.u.length ≤ 32767 := hfue1.1
          have ew19 : IntKind.u32.wrap (y1.u.length : Int) = y1.u.length := u32_wrap (by omega)
          have ez19 : IntKind.u32.wrap (0 + (y1.u.length : Int)) = y1.u.length := by rw [Int.zero_add,u32_wrap (by omega)]
          simp (maxSteps:=1000000)(disch:=(first|omega|(simp only [qI,qJ,qK]<;>omega)|exact qL _)) only [go_sem,↓reduceIte,n0,reduceCtorEq,n1,n2,n3,n4,n5,i0,i1,i2,i3,i4,i5,i6,i7,hv_19,hx1_19,hni_3,Int.toNat_natCast,Nat.mul_one,hq1_0,hq1_1,hq1_2,hr1_5,hr5_0,hr5_5,hr5_6,hr5_75,hr5_74,hr5_10,hr5_12,ew19,ez19]
          refine (AppendUvarint_fn _ _ _ ha19.own hB19 y1.u.length (by omega) (by simp only [List.length_append,List.length_nil];omega)).mono ?_
          rintro r20 w20 hc20
          rw [← hXUe1] at hc20
          have ha20 := ha19.trans hc20
          have hB20 : B ≤ w20.heap.size := Nat.le_trans hB ha20.upd.size
          have hv_20 := ha20.upd.blk_some hv hdv
          have hx1_20 := ha20.upd.blk_some hx1 hnx1
          repeat ((first | refine qA rfl ?_|apply qB|refine qC rfl ?_|apply qD|apply qE|apply qF|apply qG|apply qH);try simp (maxSteps:=1000000)(disch:=(first|omega|(simp only [qI,qJ,qK]<;>omega)|exact qL _)) only [go_sem,↓reduceIte,n0,reduceCtorEq,n1,n2,n3,n4,n5,i0,i1,i2,i3,i4,i5,i6,i7,hv_20,hx1_20,hni_3,Int.toNat_natCast,Nat.mul_one,hq1_0,hq1_1,hq1_2,hr1_5,hr5_0,hr5_5,hr5_6,hr5_75,hr5_74,hr5_10,hr5_12])
          have hTk20 : TagsM (OkS okM w.heap.size) w20 (.map qme1) y1.u := (hTe1.weaken fun b h1 h2 => ⟨h2,h1⟩).keep (ha20.upd.keeps fun b hb hk => hd b hb hk.1)
          refine (AppendEach_fn (ok := OkS okM w.heap.size) _ _ _ ha20.own hB20 hx1_20 (to := o1 + (j1 * 3 + 2)) hq1_2 hTk20 (rising_keys hfue1) hfue1.1 (tags_small hfue1 hTk20) (hdK ha20) (ownK ha20 (blk_lt hx1) hnx1) (by simp only [List.length_append,List.length_nil];omega)).mono ?_
          rintro r21 w21 hc21
          rw [← hXTe1] at hc21
          have ha21 := ha20.trans hc21
          have hB21 : B ≤ w21.heap.size := Nat.le_trans hB ha21.upd.size
          have hv_21 := ha21.upd.blk_some hv hdv
          have hx1_21 := ha21.upd.blk_some hx1 hnx1
          repeat ((first | refine qA rfl ?_|apply qB|refine qC rfl ?_|apply qD|apply qE|apply qF|apply qG|apply qH);try simp (maxSteps:=1000000)(disch:=(first|omega|(simp only [qI,qJ,qK]<;>omega)|exact qL _)) only [go_sem,↓reduceIte,n0,reduceCtorEq,n1,n2,n3,n4,n5,i0,i1,i2,i3,i4,i5,i6,i7,hr1_5,hr5_0,hr5_5,hr5_6,hr5_75,hr5_74,hr5_10,hr5_12])
          refine ⟨⟨j1 + 1,_,by omega,rfl,rfl,ha21.eqs ?_⟩,?_⟩
          · rw [hcat1,List.flatMap_append,List.flatMap_cons,List.flatMap_nil,List.append_nil,← hTT1,hPe1];simp only [List.append_assoc,List.append_nil,List.nil_append]
          · simp only [RowKit.intOf];omega
    · have hjl1 : j1 = L_3.length := by omega
      subst hjl1
      rw [List.take_length,← hXE_3] at ha5
      repeat ((first | refine qA rfl ?_|apply qB|refine qC rfl ?_|apply qD|apply qE|apply qF|apply qG|apply qH);try simp (maxSteps:=1000000)(disch:=(first|omega|(simp only [qI,qJ,qK]<;>omega)|exact qL _)) only [go_sem,↓reduceIte,n0,reduceCtorEq,n1,n2,n3,n4,n5,i0,i1,i2,i3,i4,i5,i6,i7,hI1,hN1])
      exact ⟨_,hr1_1,hr1_0,hr1_5,hr1_6,ha5⟩
  · rintro ρ w22 ⟨r22,hr1_6,hr6_0,hr6_5,hr6_6,ha22⟩
    have hB22 : B ≤ w22.heap.size := Nat.le_trans hB ha22.upd.size
    have hv_22 := ha22.upd.blk_some hv hdv
    repeat ((first | refine qA rfl ?_|apply qB|refine qC rfl ?_|apply qD|apply qE|apply qF|apply qG|apply qH);try simp (maxSteps:=1000000)(disch:=(first|omega|(simp only [qI,qJ,qK]<;>omega)|exact qL _)) only [go_sem,↓reduceIte,n0,reduceCtorEq,n1,n2,n3,n4,n5,i0,i1,i2,i3,i4,i5,i6,i7,hv_22,hni_3,hr1_6,hr6_0,hr6_5,hr6_6])
    have hTk22 : TagsM (OkS okM w.heap.size) w22 (.map qm) t.u := (hT.weaken fun b h1 h2 => ⟨h2,h1⟩).keep (ha22.upd.keeps fun b hb hk => hd b hb hk.1)
    refine (TagsLen_fn (ok := OkS okM w.heap.size) w22 hv_22 (to := 5) (show (#[.int .i16 ver,.int .i32 (IntKind.i32.wrap (t.at 0).n),.int .i16 (IntKind.i16.wrap (t.at 1).n),p_2,.slice ab_3 L_3.length ac_3,.map qm] : Array Value)[5]? = some (.map qm) from rfl) hTk22).mono ?_
    rintro _ w22' ⟨rfl,rfl⟩
    have hul22 : t.u.length ≤ 32767 := hfu.1
    have ew22 : IntKind.u32.wrap (t.u.length : Int) = t.u.length := u32_wrap (by omega)
    have ez22 : IntKind.u32.wrap (0 + (t.u.length : Int)) = t.u.length := by rw [Int.zero_add,u32_wrap (by omega)]
    simp (maxSteps:=1000000)(disch:=(first|omega|(simp only [qI,qJ,qK]<;>omega)|exact qL _)) only [go_sem,↓reduceIte,n0,reduceCtorEq,n1,n2,n3,n4,n5,i0,i1,i2,i3,i4,i5,i6,i7,hv_22,hni_3,hr1_6,hr6_0,hr6_5,hr6_6,ew22,ez22]
    refine (AppendUvarint_fn _ _ _ ha22.own hB22 t.u.length (by omega) (by simp only [List.length_append,List.length_nil];omega)).mono ?_
    rintro r23 w23 hc23
    rw [← hXU] at hc23
    have ha23 := ha22.trans hc23
    have hB23 : B ≤ w23.heap.size := Nat.le_trans hB ha23.upd.size
    have hv_23 := ha23.upd.blk_some hv hdv
    repeat ((first | refine qA rfl ?_|apply qB|refine qC rfl ?_|apply qD|apply qE|apply qF|apply qG|apply qH);try simp (maxSteps:=1000000)(disch:=(first|omega|(simp only [qI,qJ,qK]<;>omega)|exact qL _)) only [go_sem,↓reduceIte,n0,reduceCtorEq,n1,n2,n3,n4,n5,i0,i1,i2,i3,i4,i5,i6,i7,hv_23,hni_3,hr1_6,hr6_0,hr6_5,hr6_6])
    have hTk23 : TagsM (OkS okM w.heap.size) w23 (.map qm) t.u := (hT.weaken fun b h1 h2 => ⟨h2,h1⟩).keep (ha23.upd.keeps fun b hb hk => hd b hb hk.1)
    refine (AppendEach_fn (ok := OkS okM w.heap.size) _ _ _ ha23.own hB23 hv_23 (to := 5) (show (#[.int .i16 ver,.int .i32 (IntKind.i32.wrap (t.at 0).n),.int .i16 (IntKind.i16.wrap (t.at 1).n),p_2,.slice ab_3 L_3.length ac_3,.map qm] : Array Value)[5]? = some (.map qm) from rfl) hTk23 (rising_keys hfu) hfu.1 (tags_small hfu hTk23) (hdK ha23) (ownK ha23 (blk_lt hv) hdv) (by simp only [List.length_append,List.length_nil];omega)).mono ?_
    rintro r24 w24 hc24
    rw [← hXT] at hc24
    have ha24 := ha23.trans hc24
    have hB24 : B ≤ w24.heap.size := Nat.le_trans hB ha24.upd.size
    have hv_24 := ha24.upd.blk_some hv hdv
    repeat ((first | refine qA rfl ?_|apply qB|refine qC rfl ?_|apply qD|apply qE|apply qF|apply qG|apply qH);try simp (maxSteps:=1000000)(disch:=(first|omega|(simp only [qI,qJ,qK]<;>omega)|exact qL _)) only [go_sem,↓reduceIte,n0,reduceCtorEq,n1,n2,n3,n4,n5,i0,i1,i2,i3,i4,i5,i6,i7,hv_24,hni_3,hr1_6,hr6_0,hr6_5,hr6_6])
    refine ha24.eqs ?_
    rw [hP];simp only [List.append_assoc,List.append_nil,List.nil_append]

set_option maxHeartbeats 2000000 in
theorem BehindQ_fn {d : Nat} {ok : Blocks} {ev : Value} (ver : Nat) (hv : ver ≤ 1) (t : Tree) (dst b : Value) (D : List UInt8) (w : World) (hd : BytesV ok w dst D) (hb : BytesV ok w b (partS (d + 3) fs_Q ver (flexB 1 ver) t)) (hG : Glo ev w) (hrd : rdP (d + 3) ver (flexB 1 ver) fs_Q (some (partS (d + 3) fs_Q ver (flexB 1 ver) t)) = (cnP (d + 3) ver (flexB 1 ver) fs_Q t,some []))
    (hcn : partS (d + 3) fs_Q ver (flexB 1 ver) (cnP (d + 3) ver (flexB 1 ver) fs_Q t) = (partS (d + 3) fs_Q ver (flexB 1 ver) t) ∧ FitW ver (d + 3) fs_Q (cnP (d + 3) ver (flexB 1 ver) fs_Q t)) (hD : D.length ≤ 1000) (hl : (partS (d + 3) fs_Q ver (flexB 1 ver) t).length ≤ 2 ^ 40) :
    Fn Tryz.prog 14 #[.int .i64 ver,dst,b] w fun r w' => (∃ v,r = .tuple #[v,.bool true] ∧ OwnBy 5 w.heap.size w' v (D ++ (partS (d + 3) fs_Q ver (flexB 1 ver) t))) ∧ Ext w w' := by
  obtain ⟨da,dc,rfl,_⟩ := hd.shape
  obtain ⟨ba,bc,rfl,_⟩ := hb.shape
  have hgl := hG.lt
  have ew : IntKind.i16.wrap (ver : Int) = ver := i16_wrap (by omega)
  refine fn_of_W Tryz.func14 rfl Tryz.results14 Tryz.ntmps14 rfl ?_
  repeat ((first | refine qA rfl ?_|apply qB|refine qC rfl ?_|apply qD|apply qE|apply qF|apply qG|apply qH);try simp (maxSteps:=1000000)(disch:=(first|omega|(simp only [qI,qJ,qK]<;>omega)|exact qL _)) only [go_sem,↓reduceIte,n0,reduceCtorEq,n1,n2,n3,n4,n5,i0,i1,i2,i3,i4,i5,i6,i7,ew])
  refine (NewPtrQ_fn w).mono ?_
  rintro _ w1 ⟨rfl,hb1,hE1⟩
  have hz1 := blk_lt hb1
  repeat ((first | refine qA rfl ?_|apply qB|refine qC rfl ?_|apply qD|apply qE|apply qF|apply qG|apply qH);try simp (maxSteps:=1000000)(disch:=(first|omega|(simp only [qI,qJ,qK]<;>omega)|exact qL _)) only [go_sem,↓reduceIte,n0,reduceCtorEq,n1,n2,n3,n4,n5,i0,i1,i2,i3,i4,i5,i6,i7,ew])
  refine (SetVersionQ_fn w1 (vb := w.heap.size) ver hb1).mono ?_
  rintro _ w2 ⟨hb2,hU2⟩
  have hz2 := hU2.size
  have hE2 : Ext w w2 := hE1.more hU2 fun b hb h => by omega
  repeat ((first | refine qA rfl ?_|apply qB|refine qC rfl ?_|apply qD|apply qE|apply qF|apply qG|apply qH);try simp (maxSteps:=1000000)(disch:=(first|omega|(simp only [qI,qJ,qK]<;>omega)|exact qL _)) only [go_sem,↓reduceIte,n0,reduceCtorEq,n1,n2,n3,n4,n5,i0,i1,i2,i3,i4,i5,i6,i7,ew])
  refine wp_copyN ap_22_22 (ok := ok) (s := (partS (d + 3) fs_Q ver (flexB 1 ver) t)) (v := .slice ba _ bc) (by first | rfl | simp (maxSteps:=1000000)(disch:=(first|omega|(simp only [qI,qJ,qK]<;>omega)|exact qL _)) only [go_sem,↓reduceIte,n0,reduceCtorEq,n1,n2,n3,n4,n5,i0,i1,i2,i3,i4,i5,i6,i7]) (by first | rfl | simp (maxSteps:=1000000)(disch:=(first|omega|(simp only [qI,qJ,qK]<;>omega)|exact qL _)) only [go_sem,↓reduceIte,n0,reduceCtorEq,n1,n2,n3,n4,n5,i0,i1,i2,i3,i4,i5,i6,i7]) (hb.keep (hE2.keeps _)) (by omega) ?_
  intro v3 w3 ho3 hE3 hf3
  have hz3 := hE3.size
  have hb3 := hE3.blk_some hb2 id
  have hG3 : Glo ev w3 := hG.updS (hE2.trans hE3) id id
  obtain ⟨a3,c3,rfl,_⟩ := ho3.shape
  simp (maxSteps:=1000000)(disch:=(first|omega|(simp only [qI,qJ,qK]<;>omega)|exact qL _)) only [go_sem,↓reduceIte,n0,reduceCtorEq,n1,n2,n3,n4,n5,i0,i1,i2,i3,i4,i5,i6,i7]
  refine (ReadFromQ_fn (d := d) (ok := fun b => b < w3.heap.size ∧ b ≠ w.heap.size) (ev := ev) (ver := ver) (by omega) (by omega) w3 _ _ hb3 ((Own.bytes ho3 hf3).weaken fun b hb hk => ⟨hb,by omega⟩) (fun b hb => hb) hG3 ⟨by omega,by omega⟩).mono ?_
  rintro r4 w4 ⟨_,h4,hU4⟩
  rw [hrd] at h4
  obtain ⟨rfl,cells,hb4,hR4⟩ := h4 (by simp)
  have hz4 := hU4.size
  have hE4 : Ext w w4 := (hE2.trans hE3).more hU4 fun b hb h => by omega
  have hR4' : RepS true (d + 3) fs_Q (fun b => b < w4.heap.size) w4 (cnP (d + 3) ver (flexB 1 ver) fs_Q t) cells := (RepS_lay true (d + 3) fs_Q).weaken hR4 fun b hb _ => hb
  repeat (first|simp (maxSteps:=1000000)(disch:=(first|omega|(simp only [qI,qJ,qK]<;>omega)|exact qL _)) only [go_sem,↓reduceIte,n0,reduceCtorEq,n1,n2,n3,n4,n5,i0,i1,i2,i3,i4,i5,i6,i7]|refine qA rfl ?_|apply qB|refine qC rfl ?_|apply qD|apply qE|apply qF|apply qG|apply qH)
  refine wp_copyN ap_22_22 (ok := ok) (s := D) (v := .slice da _ dc) (by first | rfl | simp (maxSteps:=1000000)(disch:=(first|omega|(simp only [qI,qJ,qK]<;>omega)|exact qL _)) only [go_sem,↓reduceIte,n0,reduceCtorEq,n1,n2,n3,n4,n5,i0,i1,i2,i3,i4,i5,i6,i7]) (by first | rfl | simp (maxSteps:=1000000)(disch:=(first|omega|(simp only [qI,qJ,qK]<;>omega)|exact qL _)) only [go_sem,↓reduceIte,n0,reduceCtorEq,n1,n2,n3,n4,n5,i0,i1,i2,i3,i4,i5,i6,i7]) (hd.keep (hE4.keeps _)) (by omega) ?_
  intro v5 w5 ho5 hE5 hf5
  have hz5 := hE5.size
  have hb5 := hE5.blk_some hb4 id
  have hR5 := (RepS_lay true (d + 3) fs_Q).keep hR4' (hE5.keeps _)
  obtain ⟨a5,c5,rfl,_⟩ := ho5.shape
  simp (maxSteps:=1000000)(disch:=(first|omega|(simp only [qI,qJ,qK]<;>omega)|exact qL _)) only [go_sem,↓reduceIte,n0,reduceCtorEq,n1,n2,n3,n4,n5,i0,i1,i2,i3,i4,i5,i6,i7]
  have hcl : (0 ≤ (ver : Int) ∧ (ver : Int) ≤ 0) ∨ (1 ≤ (ver : Int) ∧ (ver : Int) ≤ 1) := by omega
  rcases hcl with ⟨h1,h2⟩ | ⟨h1,h2⟩
  · have hfl : flexB 1 ver = false := by simp only [flexB,Bool.and_eq_false_iff,decide_eq_false_iff_not];omega
    rw [hfl] at hcn hR5 hl ⊢
    refine (appQ_0 (d := d) (B := w.heap.size) h1 h2 _ cells _ D w5 (Own.mono ho5 (by omega)) (by omega) hb5 hR5 hcn.2 (fun b _ h1 h2 => by have := hf5 b h2;omega) (fun h => by have := hf5 _ h;omega) (by rw [hcn.1];omega)).mono ?_
    rintro r6 w6 h6
    repeat ((first | refine qA rfl ?_|apply qB|refine qC rfl ?_|apply qD|apply qE|apply qF|apply qG|apply qH);try simp (maxSteps:=1000000)(disch:=(first|omega|(simp only [qI,qJ,qK]<;>omega)|exact qL _)) only [go_sem,↓reduceIte,n0,reduceCtorEq,n1,n2,n3,n4,n5,i0,i1,i2,i3,i4,i5,i6,i7])
    refine ⟨by have := h6.own;rw [hcn.1] at this;exact ⟨_,rfl,this⟩,(hE4.trans hE5).more h6.upd fun b hb h => by have := hf5 b h;omega⟩
  · have hfl : flexB 1 ver = true := by simp only [flexB,Bool.and_eq_true,decide_eq_true_eq];omega
    rw [hfl] at hcn hR5 hl ⊢
    refine (appQ_1 (d := d) (B := w.heap.size) h1 h2 _ cells _ D w5 (Own.mono ho5 (by omega)) (by omega) hb5 hR5 hcn.2 (fun b _ h1 h2 => by have := hf5 b h2;omega) (fun h => by have := hf5 _ h;omega) (by rw [hcn.1];omega)).mono ?_
    rintro r6 w6 h6
    repeat ((first | refine qA rfl ?_|apply qB|refine qC rfl ?_|apply qD|apply qE|apply qF|apply qG|apply qH);try simp (maxSteps:=1000000)(disch:=(first|omega|(simp only [qI,qJ,qK]<;>omega)|exact qL _)) only [go_sem,↓reduceIte,n0,reduceCtorEq,n1,n2,n3,n4,n5,i0,i1,i2,i3,i4,i5,i6,i7])
    refine ⟨by have := h6.own;rw [hcn.1] at this;exact ⟨_,rfl,this⟩,(hE4.trans hE5).more h6.upd fun b hb h => by have := hf5 b h;omega⟩

end Ms

