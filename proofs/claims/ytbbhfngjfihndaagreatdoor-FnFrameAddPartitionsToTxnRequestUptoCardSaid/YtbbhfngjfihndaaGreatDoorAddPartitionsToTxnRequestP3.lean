/- A part of the proof: see the last text. -/
import Derived.Test.YtbbhfngjfihndaaGreatDoorC07
import Derived.Test.YtbbhfngjfihndaaGreatDoorAddPartitionsToTxnRequestP0
import Derived.Test.YtbbhfngjfihndaaGreatDoorAddPartitionsToTxnRequestP1
import Derived.Test.YtbbhfngjfihndaaGreatDoorAddPartitionsToTxnRequestP2
set_option linter.unusedSimpArgs false
set_option linter.unusedVariables false
namespace Ms
open Go.World renaming size_alloc → qI
open Ms renaming size_wr → qJ,size_drew → qK,not_noB → qL
open W renaming seqR → qA,seq → qB,regR → qC,condK → qD,block → qE,skip → qF,ret → qG,exit → qH
open Nat renaming reduceEqDiff → n0,reduceAdd → n1,reduceMul → n2,reduceSub → n3,reduceLT → n4,reduceLeDiff → n5
open Int renaming reduceEq → i0,reduceLT → i1,reduceLE → i2,reduceNeg → i3,reduceAdd → i4,reduceSub → i5,reduceMul → i6,reduceToNat → i7
set_option maxRecDepth 8000
open Go Go.Proofs Go.Shelf
attribute [local congr] W_congr WPsq_congr WPp_congr optK_congr addrK_congr intK_congr boolK_congr sliceK_congr tupleK_congr funcK_congr Fn_congr rawK_congr takeK_congr stepK_congr convK_congr aggK_congr

theorem ReadFromQ_fn {d : Nat} {ok : Blocks} {ver : Int} {ev : Value} (hlo : 0 ≤ ver) (hhi : ver ≤ 5) (w : World) {vb : Nat} (src : Value) (s : List UInt8) (hv : blk w vb = some (#[.int .i16 ver,.string ByteArray.empty,.int .i64 0,.int .i16 0,.slice none 0 0,.slice none 0 0,.map none],69,(0,0))) (hsrc : BytesV ok w src s) (hok0 : ∀ b,ok b → b < w.heap.size ∧ b ≠ vb) (hG : Glo ev w) (hgv : ¬ 0 = vb ∧ ¬ 1 = vb) :
    Fn Tryz.prog 21 #[.pointer (some ⟨vb,0,none⟩),src] w (ReadQ 69 ok ver (d + 3) fs_Q vb w (rdP (d + 3) ver (flexB 3 ver) fs_Q (some s)) ev) := by
  obtain ⟨sa,sc,rfl,_⟩ := hsrc.shape
  refine fn_of_W Tryz.func21 rfl Tryz.results21 Tryz.ntmps21 rfl ?_
  repeat ((first | refine qA rfl ?_|apply qB|refine qC rfl ?_|apply qD|apply qE|apply qF|apply qG|apply qH);try simp (maxSteps:=1000000)(disch:=(first|omega|(simp only [qI,qJ,qK]<;>omega)|exact qL _)) only [go_sem,↓reduceIte,n0,reduceCtorEq,n1,n2,n3,n4,n5,i0,i1,i2,i3,i4,i5,i6,i7])
  have hcl : (0 ≤ ver ∧ ver ≤ 2) ∨ (3 ≤ ver ∧ ver ≤ 3) ∨ (4 ≤ ver ∧ ver ≤ 5) := by omega
  rcases hcl with ⟨h1,h2⟩ | ⟨h1,h2⟩ | ⟨h1,h2⟩
  · have hfl : flexB 3 ver = false := by simp only [flexB,Bool.and_eq_false_iff,decide_eq_false_iff_not];omega
    rw [hfl]
    refine (readQ_0 (d := d) h1 h2 w _ s hv hsrc hok0 hG hgv).mono ?_
    rintro r5 w5 h5
    repeat ((first | refine qA rfl ?_|apply qB|refine qC rfl ?_|apply qD|apply qE|apply qF|apply qG|apply qH);try simp (maxSteps:=1000000)(disch:=(first|omega|(simp only [qI,qJ,qK]<;>omega)|exact qL _)) only [go_sem,↓reduceIte,n0,reduceCtorEq,n1,n2,n3,n4,n5,i0,i1,i2,i3,i4,i5,i6,i7])
    all_goals exact h5
  · have hfl : flexB 3 ver = true := by simp only [flexB,Bool.and_eq_true,decide_eq_true_eq];omega
    rw [hfl]
    refine (readQ_1 (d := d) h1 h2 w _ s hv hsrc hok0 hG hgv).mono ?_
    rintro r5 w5 h5
    repeat ((first | refine qA rfl ?_|apply qB|refine qC rfl ?_|apply qD|apply qE|apply qF|apply qG|apply qH);try simp (maxSteps:=1000000)(disch:=(first|omega|(simp only [qI,qJ,qK]<;>omega)|exact qL _)) only [go_sem,↓reduceIte,n0,reduceCtorEq,n1,n2,n3,n4,n5,i0,i1,i2,i3,i4,i5,i6,i7])
    all_goals exact h5
  · have hfl : flexB 3 ver = true := by simp only [flexB,Bool.and_eq_true,decide_eq_true_eq];omega
    rw [hfl]
    refine (readQ_2 (d := d) h1 h2 w _ s hv hsrc hok0 hG hgv).mono ?_
    rintro r5 w5 h5
    repeat ((first | refine qA rfl ?_|apply qB|refine qC rfl ?_|apply qD|apply qE|apply qF|apply qG|apply qH);try simp (maxSteps:=1000000)(disch:=(first|omega|(simp only [qI,qJ,qK]<;>omega)|exact qL _)) only [go_sem,↓reduceIte,n0,reduceCtorEq,n1,n2,n3,n4,n5,i0,i1,i2,i3,i4,i5,i6,i7])
    all_goals exact h5


set_option maxHeartbeats 4000000 in
theorem appQ_0 {d B : Nat} {okM : Blocks} {ver : Int} (hlo : 0 ≤ ver) (hhi : ver ≤ 2) (t : Tree) (cells : List Value) (v : Value) (s : List UInt8) (w : World) {vb : Nat} (ho : OwnBy 5 B w v s) (hB : B ≤ w.heap.size) (hvb : blk w vb = some ((.int .i16 ver :: cells).toArray,69,(0,0)))
    (hR : RepS true (d + 3) fs_Q okM w t cells) (hfit : FitW ver (d + 3) fs_Q t) (hd : ∀ b,b < w.heap.size → okM b → ¬ ownB v b) (hdv : ¬ ownB v vb) (hlen : s.length + (partS (d + 3) fs_Q ver false t).length ≤ 2 ^ 41) :
    Fn Tryz.prog 92 #[.pointer (some ⟨vb,0,none⟩),v] w fun r w' => AppR 5 B w v s (partS (d + 3) fs_Q ver false t) r w' := by
  obtain ⟨⟨g_0,g_1,g_2,g_3,g_4,-⟩,hfu⟩ := hfit
  replace g_0 : hasS fQ_0 ver = true → FitWF (FitW ver (d + 2)) ver fQ_0 (t.at 0) := g_0
  have hh_0 : hasS fQ_0 ver = true := hasS_t (by show (0 : Int) ≤ ver;omega) (by show (3 : Int) < 0 ∨ ver ≤ (3 : Int);omega)
  replace g_0 := g_0 hh_0
  replace g_1 : hasS fQ_1 ver = true → FitWF (FitW ver (d + 2)) ver fQ_1 (t.at 1) := g_1
  have hh_1 : hasS fQ_1 ver = true := hasS_t (by show (0 : Int) ≤ ver;omega) (by show (3 : Int) < 0 ∨ ver ≤ (3 : Int);omega)
  replace g_1 := g_1 hh_1
  replace g_2 : hasS fQ_2 ver = true → FitWF (FitW ver (d + 2)) ver fQ_2 (t.at 2) := g_2
  have hh_2 : hasS fQ_2 ver = true := hasS_t (by show (0 : Int) ≤ ver;omega) (by show (3 : Int) < 0 ∨ ver ≤ (3 : Int);omega)
  replace g_2 := g_2 hh_2
  replace g_3 : hasS fQ_3 ver = true → FitWF (FitW ver (d + 2)) ver fQ_3 (t.at 3) := g_3
  have hh_3 : hasS fQ_3 ver = true := hasS_t (by show (0 : Int) ≤ ver;omega) (by show (3 : Int) < 0 ∨ ver ≤ (3 : Int);omega)
  replace g_3 := g_3 hh_3
  replace g_4 : hasS fQ_4 ver = true → FitWF (FitW ver (d + 2)) ver fQ_4 (t.at 4) := g_4
  have hh_4 : hasS fQ_4 ver = false := hasS_f (by show ver < 4 ∨ (0 ≤ (-1 : Int) ∧ (-1 : Int) < ver);omega)
  clear g_4
  obtain ⟨cs,q,hcs,hL,hT⟩ := hR.inv
  obtain ⟨c_0,e_0,rfl,h_0,c_1,e_1,rfl,h_1,c_2,e_2,rfl,h_2,c_3,e_3,rfl,h_3,c_4,e_4,rfl,h_4,rfl⟩ := hL
  replace h_0 : RepF (RepS true (d + 2)) (szS true (d + 2)) fQ_0 okM w (t.at 0) c_0 := h_0
  replace h_1 : RepF (RepS true (d + 2)) (szS true (d + 2)) fQ_1 okM w (t.at 1) c_1 := h_1
  replace h_2 : RepF (RepS true (d + 2)) (szS true (d + 2)) fQ_2 okM w (t.at 2) c_2 := h_2
  replace h_3 : RepF (RepS true (d + 2)) (szS true (d + 2)) fQ_3 okM w (t.at 3) c_3 := h_3
  replace h_4 : RepF (RepS true (d + 2)) (szS true (d + 2)) fQ_4 okM w (t.at 4) c_4 := h_4
  obtain rfl := (RepF_text rfl (by decide)).1 h_0
  obtain rfl := (RepF_num (by decide)).1 h_1
  obtain rfl := (RepF_num (by decide)).1 h_2
  obtain ⟨p_3,rfl,hs_3⟩ := RepF_listW g_3 rfl (by decide) h_3
  obtain ⟨ab_3,ac_3,rfl,_⟩ := SlR.shape hs_3
  have hgl_3 := g_3.list rfl
  have hll_3 := hgl_3.1
  obtain ⟨p_4,rfl⟩ := RepF_any (by decide) h_4
  obtain ⟨qm,rfl⟩ := hT.shape
  have hv : blk w vb = some (#[.int .i16 ver,strV (t.at 0).s,.int .i64 (t.at 1).n,.int .i16 (IntKind.i16.wrap (t.at 2).n),.slice ab_3 (t.at 3).l.length ac_3,p_4,.map qm],69,(0,0)) := by rw [hvb,hcs];rfl
  clear hvb hcs
  obtain ⟨X_0,hXX_0⟩ : ∃ X,X = fixedS (t.at 0).s.length 2 ++ (t.at 0).s := ⟨_,rfl⟩
  obtain ⟨X_1,hXX_1⟩ : ∃ X,X = fixedS (t.at 1).n 8 := ⟨_,rfl⟩
  obtain ⟨X_2,hXX_2⟩ : ∃ X,X = fixedS (t.at 2).n 2 := ⟨_,rfl⟩
  obtain ⟨XL_3,hXL_3⟩ : ∃ X,X = fixedS (t.at 3).l.length 4 := ⟨_,rfl⟩
  obtain ⟨XE_3,hXE_3⟩ : ∃ X,X = (t.at 3).l.flatMap (fun x => partS (d + 2) fs_X2 ver false x) := ⟨_,rfl⟩
  have hP : partS (d + 3) fs_Q ver false t = X_0 ++ (X_1 ++ (X_2 ++ ((XL_3 ++ XE_3) ++ []))) := partS_no (plainL_has (by decide) hh_0 ((fieldS_text_f g_0 rfl (by decide)).trans hXX_0.symm) (plainL_has (by decide) hh_1 ((fieldS_num 4 rfl (by decide)).trans hXX_1.symm) (plainL_has (by decide) hh_2 ((fieldS_num 2 rfl (by decide)).trans hXX_2.symm) (plainL_has (by decide) hh_3 ((fieldS_list_f (g := (fun x => partS (d + 2) fs_X2 ver false x)) g_3 rfl (by decide) (fun x _ => valueS_part)).trans (by rw [hXL_3,hXE_3])) (plainL_not hh_4 rfl)))))
  rw [hP] at hlen
  simp only [List.length_append,List.length_nil] at hlen
  have hdK : ∀ {r : Value} {w' : World} {add : List UInt8},AppR 5 B w v s add r w' → ∀ b,b < w'.heap.size → OkS okM w.heap.size b → ¬ ownB r b := fun h b _ hk ho => (h.frame b ho).elim (hd b hk.2 hk.1) (fun h => by have := hk.2;omega)
  have ownK : ∀ {r : Value} {w' : World} {add : List UInt8} {b : Nat},AppR 5 B w v s add r w' → b < w.heap.size → ¬ ownB v b → ¬ ownB r b := fun h hb hn ho => (h.frame _ ho).elim hn (fun h => by omega)
  have ha0 : AppR 5 B w v s [] v w := AppR.refl ho
  obtain ⟨w0,hw0⟩ : ∃ w0,w0 = w := ⟨_,rfl⟩
  have hB0 := hB
  have hv_0 := hv
  refine fn_of_W Tryz.func92 rfl Tryz.results92 Tryz.ntmps92 rfl ?_
  repeat ((first | refine qA rfl ?_|apply qB|refine qC rfl ?_|apply qD|apply qE|apply qF|apply qG|apply qH);try simp (maxSteps:=1000000)(disch:=(first|omega|(simp only [qI,qJ,qK]<;>omega)|exact qL _)) only [go_sem,↓reduceIte,n0,reduceCtorEq,n1,n2,n3,n4,n5,i0,i1,i2,i3,i4,i5,i6,i7,hv_0])
  refine (AppendString_fn _ _ _ ha0.own hB0 (t.at 0).s (g_0.text (.inl rfl)) (by simp only [List.length_append,List.length_nil];omega)).mono ?_
  rintro r1 w1 hc1
  rw [← hXX_0] at hc1
  have ha1 := ha0.trans hc1
  have hB1 : B ≤ w1.heap.size := Nat.le_trans hB ha1.upd.size
  have hv_1 := ha1.upd.blk_some hv hdv
  repeat ((first | refine qA rfl ?_|apply qB|refine qC rfl ?_|apply qD|apply qE|apply qF|apply qG|apply qH);try simp (maxSteps:=1000000)(disch:=(first|omega|(simp only [qI,qJ,qK]<;>omega)|exact qL _)) only [go_sem,↓reduceIte,n0,reduceCtorEq,n1,n2,n3,n4,n5,i0,i1,i2,i3,i4,i5,i6,i7,hv_1])
  refine (AppendInt64_fn _ _ _ ha1.own hB1 _ (by simp only [List.length_append,List.length_nil];omega)).mono ?_
  rintro r2 w2 hc2
  rw [← hXX_1] at hc2
  have ha2 := ha1.trans hc2
  have hB2 : B ≤ w2.heap.size := Nat.le_trans hB ha2.upd.size
  have hv_2 := ha2.upd.blk_some hv hdv
  repeat ((first | refine qA rfl ?_|apply qB|refine qC rfl ?_|apply qD|apply qE|apply qF|apply qG|apply qH);try simp (maxSteps:=1000000)(disch:=(first|omega|(simp only [qI,qJ,qK]<;>omega)|exact qL _)) only [go_sem,↓reduceIte,n0,reduceCtorEq,n1,n2,n3,n4,n5,i0,i1,i2,i3,i4,i5,i6,i7,hv_2])
  refine (AppendInt16_fn _ _ _ ha2.own hB2 _ (by simp only [List.length_append,List.length_nil];omega)).mono ?_
  rintro r3 w3 hc3
  rw [wrap16,← hXX_2] at hc3
  have ha3 := ha2.trans hc3
  have hB3 : B ≤ w3.heap.size := Nat.le_trans hB ha3.upd.size
  have hv_3 := ha3.upd.blk_some hv hdv
  repeat ((first | refine qA rfl ?_|apply qB|refine qC rfl ?_|apply qD|apply qE|apply qF|apply qG|apply qH);try simp (maxSteps:=1000000)(disch:=(first|omega|(simp only [qI,qJ,qK]<;>omega)|exact qL _)) only [go_sem,↓reduceIte,n0,reduceCtorEq,n1,n2,n3,n4,n5,i0,i1,i2,i3,i4,i5,i6,i7,hv_3])
  refine (AppendArrayLen_fn _ _ _ ha3.own hB3 (t.at 3).l.length hll_3 (by simp only [List.length_append,List.length_nil];omega)).mono ?_
  rintro r4 w4 hc4
  rw [← hXL_3] at hc4
  have ha4 := ha3.trans hc4
  have hB4 : B ≤ w4.heap.size := Nat.le_trans hB ha4.upd.size
  have hv_4 := ha4.upd.blk_some hv hdv
  repeat ((first | refine qA rfl ?_|apply qB|refine qC rfl ?_|apply qD|apply qE|apply qF|apply qG|apply qH);try simp (maxSteps:=1000000)(disch:=(first|omega|(simp only [qI,qJ,qK]<;>omega)|exact qL _)) only [go_sem,↓reduceIte,n0,reduceCtorEq,n1,n2,n3,n4,n5,i0,i1,i2,i3,i4,i5,i6,i7,hv_4])
  have hadd1 := ha4
  refine W.exitJ 0 (fun ρ w' => ∃ r,ρ 1 = r ∧ ρ 0 = .pointer (some ⟨vb,0,none⟩) ∧ ρ 5 = .int .i16 ver ∧ ρ 6 = .bool false ∧ AppR 5 B w v s (([] ++ X_0 ++ X_1 ++ X_2 ++ XL_3) ++ XE_3) r w')
    (W.loop (fun ρ w' => ∃ (j : Nat) (r : Value),j ≤ (t.at 3).l.length ∧ ρ 103 = .int .i64 j ∧ ρ 102 = .int .i64 (t.at 3).l.length ∧ ρ 10 = .slice ab_3 (t.at 3).l.length ac_3 ∧ ρ 1 = r ∧ ρ 0 = .pointer (some ⟨vb,0,none⟩) ∧ ρ 5 = .int .i16 ver ∧ ρ 6 = .bool false ∧ AppR 5 B w v s (([] ++ X_0 ++ X_1 ++ X_2 ++ XL_3) ++ ((t.at 3).l.take j).flatMap (fun x => partS (d + 2) fs_X2 ver false x)) r w')
      (fun ρ _ => (t.at 3).l.length - (RowKit.intOf (ρ 103)).toNat) ?_ ?_) ?_
  · refine ⟨0,_,Nat.zero_le _,?_,?_,?_,?_,?_,?_,?_,ha4.eqs (by rw [List.take_zero,List.flatMap_nil,List.append_nil])⟩ <;> simp (maxSteps:=1000000)(disch:=(first|omega|(simp only [qI,qJ,qK]<;>omega)|exact qL _)) only [go_sem,↓reduceIte,n0,reduceCtorEq,n1,n2,n3,n4,n5,i0,i1,i2,i3,i4,i5,i6,i7]
    all_goals rfl
  · rintro ρ w5 ⟨j1,r5,hj1,hI1,hN1,hS1,hr1_1,hr1_0,hr1_5,hr1_6,ha5⟩
    have hB5 : B ≤ w5.heap.size := Nat.le_trans hB ha5.upd.size
    have hv_5 := ha5.upd.blk_some hv hdv
    by_cases hlt1 : j1 < (t.at 3).l.length
    · obtain ⟨_,b1,o1,x1,ce1,hb1,hok1,hx1,hbl1,hxs1,hxe1,hq1,hRe1⟩ := SlR.get (size := 3) (by decide) hs_3 hlt1
      subst hb1
      have hcat1 : (t.at 3).l.take (j1 + 1) = (t.at 3).l.take j1 ++ [(t.at 3).l[j1]] := List.take_succ_eq_append_getElem hlt1
      have htl1 := take_flatMap_len (t.at 3).l (fun x => partS (d + 2) fs_X2 ver false x) (j1 + 1)
      rw [← hXE_3,hcat1,List.flatMap_append,List.flatMap_cons,List.flatMap_nil,List.append_nil] at htl1
      have hge1 := hgl_3.2 _ (List.getElem_mem hlt1)
      generalize (t.at 3).l[j1] = y1 at *
      have hnx1 := hd b1 hbl1 hok1
      obtain ⟨T1,hTT1⟩ : ∃ T,T = ((t.at 3).l.take j1).flatMap (fun x => partS (d + 2) fs_X2 ver false x) := ⟨_,rfl⟩
      rw [← hTT1] at ha5 htl1
      have hx1_5 := ha5.upd.blk_some hx1 hnx1
      replace hRe1 : RepS true (d + 2) fs_X2 okM w y1 ce1 := Rep1_part.1 hRe1
      have hfe1 : FitW ver (d + 2) fs_X2 y1 := hge1.2 rfl
      obtain ⟨⟨ge1_0,ge1_1,-⟩,hfue1⟩ := hfe1
      replace ge1_0 : hasS fX2_0 ver = true → FitWF (FitW ver (d + 1)) ver fX2_0 (y1.at 0) := ge1_0
      have hhe1_0 : hasS fX2_0 ver = true := hasS_t (by show (0 : Int) ≤ ver;omega) (by show (-1 : Int) < 0 ∨ ver ≤ (-1 : Int);omega)
      replace ge1_0 := ge1_0 hhe1_0
      replace ge1_1 : hasS fX2_1 ver = true → FitWF (FitW ver (d + 1)) ver fX2_1 (y1.at 1) := ge1_1
      have hhe1_1 : hasS fX2_1 ver = true := hasS_t (by show (0 : Int) ≤ ver;omega) (by show (-1 : Int) < 0 ∨ ver ≤ (-1 : Int);omega)
      replace ge1_1 := ge1_1 hhe1_1
      obtain ⟨cse1,qe1,hcse1,hLe1,hTe1⟩ := hRe1.inv
      obtain ⟨ce1_0,ee1_0,rfl,he1_0,ce1_1,ee1_1,rfl,he1_1,rfl⟩ := hLe1
      replace he1_0 : RepF (RepS true (d + 1)) (szS true (d + 1)) fX2_0 okM w (y1.at 0) ce1_0 := he1_0
      replace he1_1 : RepF (RepS true (d + 1)) (szS true (d + 1)) fX2_1 okM w (y1.at 1) ce1_1 := he1_1
      obtain rfl := (RepF_text rfl (by decide)).1 he1_0
      obtain ⟨pe1_1,rfl,hse1_1⟩ := RepF_listW ge1_1 rfl (by decide) he1_1
      obtain ⟨abe1_1,ace1_1,rfl,_⟩ := SlR.shape hse1_1
      have hgle1_1 := ge1_1.list rfl
      have hlle1_1 := hgle1_1.1
      obtain ⟨qme1,rfl⟩ := hTe1.shape
      subst hcse1
      have hq1_0 : x1.1[o1 + j1 * 3]? = some (strV (y1.at 0).s) := hq1 0 (by decide)
      have hq1_1 : x1.1[o1 + (j1 * 3 + 1)]? = some (.slice abe1_1 (y1.at 1).l.length ace1_1) := hq1 1 (by decide)
      have hq1_2 : x1.1[o1 + (j1 * 3 + 2)]? = some (.map qme1) := hq1 2 (by decide)
      obtain ⟨Xe1_0,hXXe1_0⟩ : ∃ X,X = fixedS (y1.at 0).s.length 2 ++ (y1.at 0).s := ⟨_,rfl⟩
      obtain ⟨XLe1_1,hXLe1_1⟩ : ∃ X,X = fixedS (y1.at 1).l.length 4 := ⟨_,rfl⟩
      obtain ⟨XEe1_1,hXEe1_1⟩ : ∃ X,X = (y1.at 1).l.flatMap (fun x : Tree => fixedS x.n 4) := ⟨_,rfl⟩
      have hPe1 : partS (d + 2) fs_X2 ver false y1 = Xe1_0 ++ ((XLe1_1 ++ XEe1_1) ++ []) := partS_no (plainL_has (by decide) hhe1_0 ((fieldS_text_f ge1_0 rfl (by decide)).trans hXXe1_0.symm) (plainL_has (by decide) hhe1_1 ((fieldS_list_f (g := (fun x : Tree => fixedS x.n 4)) ge1_1 rfl (by decide) (fun x _ => valueS_num 3 (by decide))).trans (by rw [hXLe1_1,hXEe1_1])) rfl))
      rw [hPe1] at htl1
      simp only [List.length_append,List.length_nil] at htl1
      repeat ((first | refine qA rfl ?_|apply qB|refine qC rfl ?_|apply qD|apply qE|apply qF|apply qG|apply qH);try simp (maxSteps:=1000000)(disch:=(first|omega|(simp only [qI,qJ,qK]<;>omega)|exact qL _)) only [go_sem,↓reduceIte,n0,reduceCtorEq,n1,n2,n3,n4,n5,i0,i1,i2,i3,i4,i5,i6,i7,hv_5,hx1_5,Int.toNat_natCast,Nat.mul_one,hq1_0,hq1_1,hq1_2,hr1_1,hr1_0,hr1_5,hr1_6,hI1,hN1,hS1])
      refine (AppendString_fn _ _ _ ha5.own hB5 (y1.at 0).s (ge1_0.text (.inl rfl)) (by simp only [List.length_append,List.length_nil];omega)).mono ?_
      rintro r6 w6 hc6
      rw [← hXXe1_0] at hc6
      have ha6 := ha5.trans hc6
      have hB6 : B ≤ w6.heap.size := Nat.le_trans hB ha6.upd.size
      have hv_6 := ha6.upd.blk_some hv hdv
      have hx1_6 := ha6.upd.blk_some hx1 hnx1
      repeat ((first | refine qA rfl ?_|apply qB|refine qC rfl ?_|apply qD|apply qE|apply qF|apply qG|apply qH);try simp (maxSteps:=1000000)(disch:=(first|omega|(simp only [qI,qJ,qK]<;>omega)|exact qL _)) only [go_sem,↓reduceIte,n0,reduceCtorEq,n1,n2,n3,n4,n5,i0,i1,i2,i3,i4,i5,i6,i7,hv_6,hx1_6,Int.toNat_natCast,Nat.mul_one,hq1_0,hq1_1,hq1_2,hr1_1,hr1_0,hr1_5,hr1_6,hI1,hN1,hS1])
      refine (AppendArrayLen_fn _ _ _ ha6.own hB6 (y1.at 1).l.length hlle1_1 (by simp only [List.length_append,List.length_nil];omega)).mono ?_
      rintro r7 w7 hc7
      rw [← hXLe1_1] at hc7
      have ha7 := ha6.trans hc7
      have hB7 : B ≤ w7.heap.size := Nat.le_trans hB ha7.upd.size
      have hv_7 := ha7.upd.blk_some hv hdv
      have hx1_7 := ha7.upd.blk_some hx1 hnx1
      repeat ((first | refine qA rfl ?_|apply qB|refine qC rfl ?_|apply qD|apply qE|apply qF|apply qG|apply qH);try simp (maxSteps:=1000000)(disch:=(first|omega|(simp only [qI,qJ,qK]<;>omega)|exact qL _)) only [go_sem,↓reduceIte,n0,reduceCtorEq,n1,n2,n3,n4,n5,i0,i1,i2,i3,i4,i5,i6,i7,hv_7,hx1_7,Int.toNat_natCast,Nat.mul_one,hq1_0,hq1_1,hq1_2,hr1_1,hr1_0,hr1_5,hr1_6,hI1,hN1,hS1])
      have hadd2 := ha7
      refine W.exitJ 2 (fun ρ w' => ∃ r,ρ 1 = r ∧ ρ 0 = .pointer (some ⟨vb,0,none⟩) ∧ ρ 5 = .int .i16 ver ∧ ρ 6 = .bool false ∧ ρ 103 = .int .i64 j1 ∧ ρ 102 = .int .i64 (t.at 3).l.length ∧ ρ 10 = .slice (some ⟨b1,o1,none⟩) (t.at 3).l.length ac_3 ∧ ρ 12 = .pointer (some ⟨b1,o1 + j1 * 3,none⟩) ∧ AppR 5 B w v s (([] ++ X_0 ++ X_1 ++ X_2 ++ XL_3 ++ T1 ++ Xe1_0 ++ XLe1_1) ++ XEe1_1) r w')
        (W.loop (fun ρ w' => ∃ (j : Nat) (r : Value),j ≤ (y1.at 1).l.length ∧ ρ 135 = .int .i64 j ∧ ρ 134 = .int .i64 (y1.at 1).l.length ∧ ρ 14 = .slice abe1_1 (y1.at 1).l.length ace1_1 ∧ ρ 1 = r ∧ ρ 0 = .pointer (some ⟨vb,0,none⟩) ∧ ρ 5 = .int .i16 ver ∧ ρ 6 = .bool false ∧ ρ 103 = .int .i64 j1 ∧ ρ 102 = .int .i64 (t.at 3).l.length ∧ ρ 10 = .slice (some ⟨b1,o1,none⟩) (t.at 3).l.length ac_3 ∧ ρ 12 = .pointer (some ⟨b1,o1 + j1 * 3,none⟩) ∧ AppR 5 B w v s (([] ++ X_0 ++ X_1 ++ X_2 ++ XL_3 ++ T1 ++ Xe1_0 ++ XLe1_1) ++ ((y1.at 1).l.take j).flatMap (fun x : Tree => fixedS x.n 4)) r w')
          (fun ρ _ => (y1.at 1).l.length - (RowKit.intOf (ρ 135)).toNat) ?_ ?_) ?_
      · refine ⟨0,_,Nat.zero_le _,?_,?_,?_,?_,?_,?_,?_,?_,?_,?_,?_,ha7.eqs (by rw [List.take_zero,List.flatMap_nil,List.append_nil])⟩ <;> simp (maxSteps:=1000000)(disch:=(first|omega|(simp only [qI,qJ,qK]<;>omega)|exact qL _)) only [go_sem,↓reduceIte,n0,reduceCtorEq,n1,n2,n3,n4,n5,i0,i1,i2,i3,i4,i5,i6,i7,hr1_1,hr1_0,hr1_5,hr1_6,hI1,hN1,hS1]
        all_goals rfl
      · rintro ρ w8 ⟨j2,r8,hj2,hI2,hN2,hS2,hr1_2,hr2_0,hr2_5,hr2_6,hr2_103,hr2_102,hr2_10,hr2_12,ha8⟩
        have hB8 : B ≤ w8.heap.size := Nat.le_trans hB ha8.upd.size
        have hv_8 := ha8.upd.blk_some hv hdv
        have hx1_8 := ha8.upd.blk_some hx1 hnx1
        by_cases hlt2 : j2 < (y1.at 1).l.length
        · obtain ⟨_,b2,o2,x2,ce2,hb2,hok2,hx2,hbl2,hxs2,hxe2,hq2,hRe2⟩ := SlR.get (size := 1) (by decide) hse1_1 hlt2
          subst hb2
          have hcat2 : (y1.at 1).l.take (j2 + 1) = (y1.at 1).l.take j2 ++ [(y1.at 1).l[j2]] := List.take_succ_eq_append_getElem hlt2
          have htl2 := take_flatMap_len (y1.at 1).l (fun x : Tree => fixedS x.n 4) (j2 + 1)
          rw [← hXEe1_1,hcat2,List.flatMap_append,List.flatMap_cons,List.flatMap_nil,List.append_nil] at htl2
          have hge2 := hgle1_1.2 _ (List.getElem_mem hlt2)
          generalize (y1.at 1).l[j2] = y2 at *
          have hnx2 := hd b2 hbl2 hok2
          obtain ⟨T2,hTT2⟩ : ∃ T,T = ((y1.at 1).l.take j2).flatMap (fun x : Tree => fixedS x.n 4) := ⟨_,rfl⟩
          rw [← hTT2] at ha8 htl2
          have hx2_8 := ha8.upd.blk_some hx2 hnx2
          obtain rfl := (Rep1_num (by decide)).1 hRe2
          have hq2_0 : x2.1[o2 + j2]? = some (.int .i32 (IntKind.i32.wrap y2.n)) := by have := hq2 0 (by decide);rw [Nat.mul_one] at this;exact this
          obtain ⟨Y2,hY2⟩ : ∃ Y,Y = fixedS (y2).n 4 := ⟨_,rfl⟩
          replace htl2 : (T2 ++ Y2).length ≤ XEe1_1.length := by rw [hY2];exact htl2
          simp only [List.length_append] at htl2
          repeat ((first | refine qA rfl ?_|apply qB|refine qC rfl ?_|apply qD|apply qE|apply qF|apply qG|apply qH);try simp (maxSteps:=1000000)(disch:=(first|omega|(simp only [qI,qJ,qK]<;>omega)|exact qL _)) only [go_sem,↓reduceIte,n0,reduceCtorEq,n1,n2,n3,n4,n5,i0,i1,i2,i3,i4,i5,i6,i7,hv_8,hx1_8,hx2_8,Int.toNat_natCast,Nat.mul_one,hq1_0,hq1_1,hq1_2,hq2_0,hr1_2,hr2_0,hr2_5,hr2_6,hr2_103,hr2_102,hr2_10,hr2_12,hI2,hN2,hS2])
          refine (AppendInt32_fn _ _ _ ha8.own hB8 _ (by simp only [List.length_append,List.length_nil];omega)).mono ?_
          rintro r9 w9 hc9
          rw [wrap32,← hY2] at hc9
          have ha9 := ha8.trans hc9
          have hB9 : B ≤ w9.heap.size := Nat.le_trans hB ha9.upd.size
          have hv_9 := ha9.upd.blk_some hv hdv
          have hx1_9 := ha9.upd.blk_some hx1 hnx1
          have hx2_9 := ha9.upd.blk_some hx2 hnx2
          repeat ((first | refine qA rfl ?_|apply qB|refine qC rfl ?_|apply qD|apply qE|apply qF|apply qG|apply qH);try simp (maxSteps:=1000000)(disch:=(first|omega|(simp only [qI,qJ,qK]<;>omega)|exact qL _)) only [go_sem,↓reduceIte,n0,reduceCtorEq,n1,n2,n3,n4,n5,i0,i1,i2,i3,i4,i5,i6,i7,hr1_2,hr2_0,hr2_5,hr2_6,hr2_103,hr2_102,hr2_10,hr2_12,hI2,hN2,hS2])
          refine ⟨⟨j2 + 1,_,by omega,rfl,rfl,ha9.eqs ?_⟩,?_⟩
          · rw [hcat2,List.flatMap_append,List.flatMap_cons,List.flatMap_nil,List.append_nil,← hTT2,hY2];simp only [List.append_assoc,List.append_nil,List.nil_append]
          · simp only [RowKit.intOf];omega
        · have hjl2 : j2 = (y1.at 1).l.length := by omega
          subst hjl2
          rw [List.take_length,← hXEe1_1] at ha8
          repeat ((first | refine qA rfl ?_|apply qB|refine qC rfl ?_|apply qD|apply qE|apply qF|apply qG|apply qH);try simp (maxSteps:=1000000)(disch:=(first|omega|(simp only [qI,qJ,qK]<;>omega)|exact qL _)) only [go_sem,↓reduceIte,n0,reduceCtorEq,n1,n2,n3,n4,n5,i0,i1,i2,i3,i4,i5,i6,i7,hI2,hN2])
          exact ⟨_,hr1_2,hr2_0,hr2_5,hr2_6,hr2_103,hr2_102,hr2_10,hr2_12,ha8⟩
      · rintro ρ w10 ⟨r10,hr1_3,hr3_0,hr3_5,hr3_6,hr3_103,hr3_102,hr3_10,hr3_12,ha10⟩
        have hB10 : B ≤ w10.heap.size := Nat.le_trans hB ha10.upd.size
        have hv_10 := ha10.upd.blk_some hv hdv
        have hx1_10 := ha10.upd.blk_some hx1 hnx1
        repeat ((first | refine qA rfl ?_|apply qB|refine qC rfl ?_|apply qD|apply qE|apply qF|apply qG|apply qH);try simp (maxSteps:=1000000)(disch:=(first|omega|(simp only [qI,qJ,qK]<;>omega)|exact qL _)) only [go_sem,↓reduceIte,n0,reduceCtorEq,n1,n2,n3,n4,n5,i0,i1,i2,i3,i4,i5,i6,i7,hr1_3,hr3_0,hr3_5,hr3_6,hr3_103,hr3_102,hr3_10,hr3_12])
        refine ⟨⟨j1 + 1,_,by omega,rfl,rfl,ha10.eqs ?_⟩,?_⟩
        · rw [hcat1,List.flatMap_append,List.flatMap_cons,List.flatMap_nil,List.append_nil,← hTT1,hPe1];simp only [List.append_assoc,List.append_nil,List.nil_append]
        · simp only [RowKit.intOf];omega
    · have hjl1 : j1 = (t.at 3).l.length := by omega
      subst hjl1
      rw [List.take_length,← hXE_3] at ha5
      repeat ((first | refine qA rfl ?_|apply qB|refine qC rfl ?_|apply qD|apply qE|apply qF|apply qG|apply qH);try simp (maxSteps:=1000000)(disch:=(first|omega|(simp only [qI,qJ,qK]<;>omega)|exact qL _)) only [go_sem,↓reduceIte,n0,reduceCtorEq,n1,n2,n3,n4,n5,i0,i1,i2,i3,i4,i5,i6,i7,hI1,hN1])
      exact ⟨_,hr1_1,hr1_0,hr1_5,hr1_6,ha5⟩
  · rintro ρ w11 ⟨r11,hr1_4,hr4_0,hr4_5,hr4_6,ha11⟩
    have hB11 : B ≤ w11.heap.size := Nat.le_trans hB ha11.upd.size
    have hv_11 := ha11.upd.blk_some hv hdv
    repeat ((first | refine qA rfl ?_|apply qB|refine qC rfl ?_|apply qD|apply qE|apply qF|apply qG|apply qH);try simp (maxSteps:=1000000)(disch:=(first|omega|(simp only [qI,qJ,qK]<;>omega)|exact qL _)) only [go_sem,↓reduceIte,n0,reduceCtorEq,n1,n2,n3,n4,n5,i0,i1,i2,i3,i4,i5,i6,i7,hv_11,hr1_4,hr4_0,hr4_5,hr4_6])
    refine ha11.eqs ?_
    rw [hP];simp only [List.append_assoc,List.append_nil,List.nil_append]

set_option maxHeartbeats 4000000 in
theorem appQ_1 {d B : Nat} {okM : Blocks} {ver : Int} (hlo : 3 ≤ ver) (hhi : ver ≤ 3) (t : Tree) (cells : List Value) (v : Value) (s : List UInt8) (w : World) {vb : Nat} (ho : OwnBy 5 B w v s) (hB : B ≤ w.heap.size) (hvb : blk w vb = some ((.int .i16 ver :: cells).toArray,69,(0,0)))
    (hR : RepS true (d + 3) fs_Q okM w t cells) (hfit : FitW ver (d + 3) fs_Q t) (hd : ∀ b,b < w.heap.size → okM b → ¬ ownB v b) (hdv : ¬ ownB v vb) (hlen : s.length + (partS (d + 3) fs_Q ver true t).length ≤ 2 ^ 41) :
    Fn Tryz.prog 92 #[.pointer (some ⟨vb,0,none⟩),v] w fun r w' => AppR 5 B w v s (partS (d + 3) fs_Q ver true t) r w' := by
  obtain ⟨⟨g_0,g_1,g_2,g_3,g_4,-⟩,hfu⟩ := hfit
  replace g_0 : hasS fQ_0 ver = true → FitWF (FitW ver (d + 2)) ver fQ_0 (t.at 0) := g_0
  have hh_0 : hasS fQ_0 ver = true := hasS_t (by show (0 : Int) ≤ ver;omega) (by show (3 : Int) < 0 ∨ ver ≤ (3 : Int);omega)
  replace g_0 := g_0 hh_0
  replace g_1 : hasS fQ_1 ver = true → FitWF (FitW ver (d + 2)) ver fQ_1 (t.at 1) := g_1
  have hh_1 : hasS fQ_1 ver = true := hasS_t (by show (0 : Int) ≤ ver;omega) (by show (3 : Int) < 0 ∨ ver ≤ (3 : Int);omega)
  replace g_1 := g_1 hh_1
  replace g_2 : hasS fQ_2 ver = true → FitWF (FitW ver (d + 2)) ver fQ_2 (t.at 2) := g_2
  have hh_2 : hasS fQ_2 ver = true := hasS_t (by show (0 : Int) ≤ ver;omega) (by show (3 : Int) < 0 ∨ ver ≤ (3 : Int);omega)
  replace g_2 := g_2 hh_2
  replace g_3 : hasS fQ_3 ver = true → FitWF (FitW ver (d + 2)) ver fQ_3 (t.at 3) := g_3
  have hh_3 : hasS fQ_3 ver = true := hasS_t (by show (0 : Int) ≤ ver;omega) (by show (3 : Int) < 0 ∨ ver ≤ (3 : Int);omega)
  replace g_3 := g_3 hh_3
  replace g_4 : hasS fQ_4 ver = true → FitWF (FitW ver (d + 2)) ver fQ_4 (t.at 4) := g_4
  have hh_4 : hasS fQ_4 ver = false := hasS_f (by show ver < 4 ∨ (0 ≤ (-1 : Int) ∧ (-1 : Int) < ver);omega)
  clear g_4
  obtain ⟨cs,q,hcs,hL,hT⟩ := hR.inv
  obtain ⟨c_0,e_0,rfl,h_0,c_1,e_1,rfl,h_1,c_2,e_2,rfl,h_2,c_3,e_3,rfl,h_3,c_4,e_4,rfl,h_4,rfl⟩ := hL
  replace h_0 : RepF (RepS true (d + 2)) (szS true (d + 2)) fQ_0 okM w (t.at 0) c_0 := h_0
  replace h_1 : RepF (RepS true (d + 2)) (szS true (d + 2)) fQ_1 okM w (t.at 1) c_1 := h_1
  replace h_2 : RepF (RepS true (d + 2)) (szS true (d + 2)) fQ_2 okM w (t.at 2) c_2 := h_2
  replace h_3 : RepF (RepS true (d + 2)) (szS true (d + 2)) fQ_3 okM w (t.at 3) c_3 := h_3
  replace h_4 : RepF (RepS true (d + 2)) (szS true (d + 2)) fQ_4 okM w (t.at 4) c_4 := h_4
  obtain rfl := (RepF_text rfl (by decide)).1 h_0
  obtain rfl := (RepF_num (by decide)).1 h_1
  obtain rfl := (RepF_num (by decide)).1 h_2
  obtain ⟨p_3,rfl,hs_3⟩ := RepF_listW g_3 rfl (by decide) h_3
  obtain ⟨ab_3,ac_3,rfl,_⟩ := SlR.shape hs_3
  have hgl_3 := g_3.list rfl
  have hll_3 := hgl_3.1
  obtain ⟨p_4,rfl⟩ := RepF_any (by decide) h_4
  obtain ⟨qm,rfl⟩ := hT.shape
  have hv : blk w vb = some (#[.int .i16 ver,strV (t.at 0).s,.int .i64 (t.at 1).n,.int .i16 (IntKind.i16.wrap (t.at 2).n),.slice ab_3 (t.at 3).l.length ac_3,p_4,.map qm],69,(0,0)) := by rw [hvb,hcs];rfl
  clear hvb hcs
  obtain ⟨X_0,hXX_0⟩ : ∃ X,X = uvarS ((t.at 0).s.length + 1) ++ (t.at 0).s := ⟨_,rfl⟩
  obtain ⟨X_1,hXX_1⟩ : ∃ X,X = fixedS (t.at 1).n 8 := ⟨_,rfl⟩
  obtain ⟨X_2,hXX_2⟩ : ∃ X,X = fixedS (t.at 2).n 2 := ⟨_,rfl⟩
  obtain ⟨XL_3,hXL_3⟩ : ∃ X,X = uvarS ((t.at 3).l.length + 1) := ⟨_,rfl⟩
  obtain ⟨XE_3,hXE_3⟩ : ∃ X,X = (t.at 3).l.flatMap (fun x => partS (d + 2) fs_X2 ver true x) := ⟨_,rfl⟩
  obtain ⟨XU,hXU⟩ : ∃ X,X = uvarS t.u.length := ⟨_,rfl⟩
  obtain ⟨XT,hXT⟩ : ∃ X,X = t.u.flatMap oneTag := ⟨_,rfl⟩
  have hP : partS (d + 3) fs_Q ver true t = (X_0 ++ (X_1 ++ (X_2 ++ ((XL_3 ++ XE_3) ++ [])))) ++ (XU ++ XT) := by rw [hXU,hXT];exact partS_yes rfl hfu (plainL_has (by decide) hh_0 ((fieldS_text_t g_0 rfl (by decide)).trans hXX_0.symm) (plainL_has (by decide) hh_1 ((fieldS_num 4 rfl (by decide)).trans hXX_1.symm) (plainL_has (by decide) hh_2 ((fieldS_num 2 rfl (by decide)).trans hXX_2.symm) (plainL_has (by decide) hh_3 ((fieldS_list_t (g := (fun x => partS (d + 2) fs_X2 ver true x)) g_3 rfl (by decide) (fun x _ => valueS_part)).trans (by rw [hXL_3,hXE_3])) (plainL_not hh_4 rfl)))))
  rw [hP] at hlen
  simp only [List.length_append,List.length_nil] at hlen
  have hdK : ∀ {r : Value} {w' : World} {add : List UInt8},AppR 5 B w v s add r w' → ∀ b,b < w'.heap.size → OkS okM w.heap.size b → ¬ ownB r b := fun h b _ hk ho => (h.frame b ho).elim (hd b hk.2 hk.1) (fun h => by have := hk.2;omega)
  have ownK : ∀ {r : Value} {w' : World} {add : List UInt8} {b : Nat},AppR 5 B w v s add r w' → b < w.heap.size → ¬ ownB v b → ¬ ownB r b := fun h hb hn ho => (h.frame _ ho).elim hn (fun h => by omega)
  have ha0 : AppR 5 B w v s [] v w := AppR.refl ho
  obtain ⟨w0,hw0⟩ : ∃ w0,w0 = w := ⟨_,rfl⟩
  have hB0 := hB
  have hv_0 := hv
  refine fn_of_W Tryz.func92 rfl Tryz.results92 Tryz.ntmps92 rfl ?_
  repeat ((first | refine qA rfl ?_|apply qB|refine qC rfl ?_|apply qD|apply qE|apply qF|apply qG|apply qH);try simp (maxSteps:=1000000)(disch:=(first|omega|(simp only [qI,qJ,qK]<;>omega)|exact qL _)) only [go_sem,↓reduceIte,n0,reduceCtorEq,n1,n2,n3,n4,n5,i0,i1,i2,i3,i4,i5,i6,i7,hv_0])
  refine (AppendCompactString_fn _ _ _ ha0.own hB0 (t.at 0).s (g_0.text (.inl rfl)) (by simp only [List.length_append,List.length_nil];omega)).mono ?_
  rintro r1 w1 hc1
  rw [← hXX_0] at hc1
  have ha1 := ha0.trans hc1
  have hB1 : B ≤ w1.heap.size := Nat.le_trans hB ha1.upd.size
  have hv_1 := ha1.upd.blk_some hv hdv
  repeat ((first | refine qA rfl ?_|apply qB|refine qC rfl ?_|apply qD|apply qE|apply qF|apply qG|apply qH);try simp (maxSteps:=1000000)(disch:=(first|omega|(simp only [qI,qJ,qK]<;>omega)|exact qL _)) only [go_sem,↓reduceIte,n0,reduceCtorEq,n1,n2,n3,n4,n5,i0,i1,i2,i3,i4,i5,i6,i7,hv_1])
  refine (AppendInt64_fn _ _ _ ha1.own hB1 _ (by simp only [List.length_append,List.length_nil];omega)).mono ?_
  rintro r2 w2 hc2
  rw [← hXX_1] at hc2
  have ha2 := ha1.trans hc2
  have hB2 : B ≤ w2.heap.size := Nat.le_trans hB ha2.upd.size
  have hv_2 := ha2.upd.blk_some hv hdv
  repeat ((first | refine qA rfl ?_|apply qB|refine qC rfl ?_|apply qD|apply qE|apply qF|apply qG|apply qH);try simp (maxSteps:=1000000)(disch:=(first|omega|(simp only [qI,qJ,qK]<;>omega)|exact qL _)) only [go_sem,↓reduceIte,n0,reduceCtorEq,n1,n2,n3,n4,n5,i0,i1,i2,i3,i4,i5,i6,i7,hv_2])
  refine (AppendInt16_fn _ _ _ ha2.own hB2 _ (by simp only [List.length_append,List.length_nil];omega)).mono ?_
  rintro r3 w3 hc3
  rw [wrap16,← hXX_2] at hc3
  have ha3 := ha2.trans hc3
  have hB3 : B ≤ w3.heap.size := Nat.le_trans hB ha3.upd.size
  have hv_3 := ha3.upd.blk_some hv hdv
  repeat ((first | refine qA rfl ?_|apply qB|refine qC rfl ?_|apply qD|apply qE|apply qF|apply qG|apply qH);try simp (maxSteps:=1000000)(disch:=(first|omega|(simp only [qI,qJ,qK]<;>omega)|exact qL _)) only [go_sem,↓reduceIte,n0,reduceCtorEq,n1,n2,n3,n4,n5,i0,i1,i2,i3,i4,i5,i6,i7,hv_3])
  refine (AppendCompactArrayLen_fn _ _ _ ha3.own hB3 (t.at 3).l.length hll_3 (by simp only [List.length_append,List.length_nil];omega)).mono ?_
  rintro r4 w4 hc4
  rw [← hXL_3] at hc4
  have ha4 := ha3.trans hc4
  have hB4 : B ≤ w4.heap.size := Nat.le_trans hB ha4.upd.size
  have hv_4 := ha4.upd.blk_some hv hdv
  repeat ((first | refine qA rfl ?_|apply qB|refine qC rfl ?_|apply qD|apply qE|apply qF|apply qG|apply qH);try simp (maxSteps:=1000000)(disch:=(first|omega|(simp only [qI,qJ,qK]<;>omega)|exact qL _)) only [go_sem,↓reduceIte,n0,reduceCtorEq,n1,n2,n3,n4,n5,i0,i1,i2,i3,i4,i5,i6,i7,hv_4])
  have hadd1 := ha4
  refine W.exitJ 0 (fun ρ w' => ∃ r,ρ 1 = r ∧ ρ 0 = .pointer (some ⟨vb,0,none⟩) ∧ ρ 5 = .int .i16 ver ∧ ρ 6 = .bool true ∧ AppR 5 B w v s (([] ++ X_0 ++ X_1 ++ X_2 ++ XL_3) ++ XE_3) r w')
    (W.loop (fun ρ w' => ∃ (j : Nat) (r : Value),j ≤ (t.at 3).l.length ∧ ρ 103 = .int .i64 j ∧ ρ 102 = .int .i64 (t.at 3).l.length ∧ ρ 10 = .slice ab_3 (t.at 3).l.length ac_3 ∧ ρ 1 = r ∧ ρ 0 = .pointer (some ⟨vb,0,none⟩) ∧ ρ 5 = .int .i16 ver ∧ ρ 6 = .bool true ∧ AppR 5 B w v s (([] ++ X_0 ++ X_1 ++ X_2 ++ XL_3) ++ ((t.at 3).l.take j).flatMap (fun x => partS (d + 2) fs_X2 ver true x)) r w')
      (fun ρ _ => (t.at 3).l.length - (RowKit.intOf (ρ 103)).toNat) ?_ ?_) ?_
  · refine ⟨0,_,Nat.zero_le _,?_,?_,?_,?_,?_,?_,?_,ha4.eqs (by rw [List.take_zero,List.flatMap_nil,List.append_nil])⟩ <;> simp (maxSteps:=1000000)(disch:=(first|omega|(simp only [qI,qJ,qK]<;>omega)|exact qL _)) only [go_sem,↓reduceIte,n0,reduceCtorEq,n1,n2,n3,n4,n5,i0,i1,i2,i3,i4,i5,i6,i7]
    all_goals rfl
  · rintro ρ w5 ⟨j1,r5,hj1,hI1,hN1,hS1,hr1_1,hr1_0,hr1_5,hr1_6,ha5⟩
    have hB5 : B ≤ w5.heap.size := Nat.le_trans hB ha5.upd.size
    have hv_5 := ha5.upd.blk_some hv hdv
    by_cases hlt1 : j1 < (t.at 3).l.length
    · obtain ⟨_,b1,o1,x1,ce1,hb1,hok1,hx1,hbl1,hxs1,hxe1,hq1,hRe1⟩ := SlR.get (size := 3) (by decide) hs_3 hlt1
      subst hb1
      have hcat1 : (t.at 3).l.take (j1 + 1) = (t.at 3).l.take j1 ++ [(t.at 3).l[j1]] := List.take_succ_eq_append_getElem hlt1
      have htl1 := take_flatMap_len (t.at 3).l (fun x => partS (d + 2) fs_X2 ver true x) (j1 + 1)
      rw [← hXE_3,hcat1,List.flatMap_append,List.flatMap_cons,List.flatMap_nil,List.append_nil] at htl1
      have hge1 := hgl_3.2 _ (List.getElem_mem hlt1)
      generalize (t.at 3).l[j1] = y1 at *
      have hnx1 := hd b1 hbl1 hok1
      obtain ⟨T1,hTT1⟩ : ∃ T,T = ((t.at 3).l.take j1).flatMap (fun x => partS (d + 2) fs_X2 ver true x) := ⟨_,rfl⟩
      rw [← hTT1] at ha5 htl1
      have hx1_5 := ha5.upd.blk_some hx1 hnx1
      replace hRe1 : RepS true (d + 2) fs_X2 okM w y1 ce1 := Rep1_part.1 hRe1
      have hfe1 : FitW ver (d + 2) fs_X2 y1 := hge1.2 rfl
      obtain ⟨⟨ge1_0,ge1_1,-⟩,hfue1⟩ := hfe1
      replace ge1_0 : hasS fX2_0 ver = true → FitWF (FitW ver (d + 1)) ver fX2_0 (y1.at 0) := ge1_0
      have hhe1_0 : hasS fX2_0 ver = true := hasS_t (by show (0 : Int) ≤ ver;omega) (by show (-1 : Int) < 0 ∨ ver ≤ (-1 : Int);omega)
      replace ge1_0 := ge1_0 hhe1_0
      replace ge1_1 : hasS fX2_1 ver = true → FitWF (FitW ver (d + 1)) ver fX2_1 (y1.at 1) := ge1_1
      have hhe1_1 : hasS fX2_1 ver = true := hasS_t (by show (0 : Int) ≤ ver;omega) (by show (-1 : Int) < 0 ∨ ver ≤ (-1 : Int);omega)
      replace ge1_1 := ge1_1 hhe1_1
      obtain ⟨cse1,qe1,hcse1,hLe1,hTe1⟩ := hRe1.inv
      obtain ⟨ce1_0,ee1_0,rfl,he1_0,ce1_1,ee1_1,rfl,he1_1,rfl⟩ := hLe1
      replace he1_0 : RepF (RepS true (d + 1)) (szS true (d + 1)) fX2_0 okM w (y1.at 0) ce1_0 := he1_0
      replace he1_1 : RepF (RepS true (d + 1)) (szS true (d + 1)) fX2_1 okM w (y1.at 1) ce1_1 := he1_1
      obtain rfl := (RepF_text rfl (by decide)).1 he1_0
      obtain ⟨pe1_1,rfl,hse1_1⟩ := RepF_listW ge1_1 rfl (by decide) he1_1
      obtain ⟨abe1_1,ace1_1,rfl,_⟩ := SlR.shape hse1_1
      have hgle1_1 := ge1_1.list rfl
      have hlle1_1 := hgle1_1.1
      obtain ⟨qme1,rfl⟩ := hTe1.shape
      subst hcse1
      have hq1_0 : x1.1[o1 + j1 * 3]? = some (strV (y1.at 0).s) := hq1 0 (by decide)
      have hq1_1 : x1.1[o1 + (j1 * 3 + 1)]? = some (.slice abe1_1 (y1.at 1).l.length ace1_1) := hq1 1 (by decide)
      have hq1_2 : x1.1[o1 + (j1 * 3 + 2)]? = some (.map qme1) := hq1 2 (by decide)
      obtain ⟨Xe1_0,hXXe1_0⟩ : ∃ X,X = uvarS ((y1.at 0).s.length + 1) ++ (y1.at 0).s := ⟨_,rfl⟩
      obtain ⟨XLe1_1,hXLe1_1⟩ : ∃ X,X = uvarS ((y1.at 1).l.length + 1) := ⟨_,rfl⟩
      obtain ⟨XEe1_1,hXEe1_1⟩ : ∃ X,X = (y1.at 1).l.flatMap (fun x : Tree => fixedS x.n 4) := ⟨_,rfl⟩
      obtain ⟨XUe1,hXUe1⟩ : ∃ X,X = uvarS y1.u.length := ⟨_,rfl⟩
      obtain ⟨XTe1,hXTe1⟩ : ∃ X,X = y1.u.flatMap oneTag := ⟨_,rfl⟩
      have hPe1 : partS (d + 2) fs_X2 ver true y1 = (Xe1_0 ++ ((XLe1_1 ++ XEe1_1) ++ [])) ++ (XUe1 ++ XTe1) := by rw [hXUe1,hXTe1];exact partS_yes rfl hfue1 (plainL_has (by decide) hhe1_0 ((fieldS_text_t ge1_0 rfl (by decide)).trans hXXe1_0.symm) (plainL_has (by decide) hhe1_1 ((fieldS_list_t (g := (fun x : Tree => fixedS x.n 4)) ge1_1 rfl (by decide) (fun x _ => valueS_num 3 (by decide))).trans (by rw [hXLe1_1,hXEe1_1])) rfl))
      rw [hPe1] at htl1
      simp only [List.length_append,List.length_nil] at htl1
      repeat ((first | refine qA rfl ?_|apply qB|refine qC rfl ?_|apply qD|apply qE|apply qF|apply qG|apply qH);try simp (maxSteps:=1000000)(disch:=(first|omega|(simp only [qI,qJ,qK]<;>omega)|exact qL _)) only [go_sem,↓reduceIte,n0,reduceCtorEq,n1,n2,n3,n4,n5,i0,i1,i2,i3,i4,i5,i6,i7,hv_5,hx1_5,Int.toNat_natCast,Nat.mul_one,hq1_0,hq1_1,hq1_2,hr1_1,hr1_0,hr1_5,hr1_6,hI1,hN1,hS1])
      refine (AppendCompactString_fn _ _ _ ha5.own hB5 (y1.at 0).s (ge1_0.text (.inl rfl)) (by simp only [List.length_append,List.length_nil];omega)).mono ?_
      rintro r6 w6 hc6
      rw [← hXXe1_0] at hc6
      have ha6 := ha5.trans hc6
      have hB6 : B ≤ w6.heap.size := Nat.le_trans hB ha6.upd.size
      have hv_6 := ha6.upd.blk_some hv hdv
      have hx1_6 := ha6.upd.blk_some hx1 hnx1
      repeat ((first | refine qA rfl ?_|apply qB|refine qC rfl ?_|apply qD|apply qE|apply qF|apply qG|apply qH);try simp (maxSteps:=1000000)(disch:=(first|omega|(simp only [qI,qJ,qK]<;>omega)|exact qL _)) only [go_sem,↓reduceIte,n0,reduceCtorEq,n1,n2,n3,n4,n5,i0,i1,i2,i3,i4,i5,i6,i7,hv_6,hx1_6,Int.toNat_natCast,Nat.mul_one,hq1_0,hq1_1,hq1_2,hr1_1,hr1_0,hr1_5,hr1_6,hI1,hN1,hS1])
      refine (AppendCompactArrayLen_fn _ _ _ ha6.own hB6 (y1.at 1).l.length hlle1_1 (by simp only [List.length_append,List.length_nil];omega)).mono ?_
      rintro r7 w7 hc7
      rw [← hXLe1_1] at hc7
      have ha7 := ha6.trans hc7
      have hB7 : B ≤ w7.heap.size := Nat.le_trans hB ha7.upd.size
      have hv_7 := ha7.upd.blk_some hv hdv
      have hx1_7 := ha7.upd.blk_some hx1 hnx1
      repeat ((first | refine qA rfl ?_|apply qB|refine qC rfl ?_|apply qD|apply qE|apply qF|apply qG|apply qH);try simp (maxSteps:=1000000)(disch:=(first|omega|(simp only [qI,qJ,qK]<;>omega)|exact qL _)) only [go_sem,↓reduceIte,n0,reduceCtorEq,n1,n2,n3,n4,n5,i0,i1,i2,i3,i4,i5,i6,i7,hv_7,hx1_7,Int.toNat_natCast,Nat.mul_one,hq1_0,hq1_1,hq1_2,hr1_1,hr1_0,hr1_5,hr1_6,hI1,hN1,hS1])
      have hadd2 := ha7
      refine W.exitJ 2 (fun ρ w' => ∃ r,ρ 1 = r ∧ ρ 0 = .pointer (some ⟨vb,0,none⟩) ∧ ρ 5 = .int .i16 ver ∧ ρ 6 = .bool true ∧ ρ 103 = .int .i64 j1 ∧ ρ 102 = .int .i64 (t.at 3).l.length ∧ ρ 10 = .slice (some ⟨b1,o1,none⟩) (t.at 3).l.length ac_3 ∧ ρ 12 = .pointer (some ⟨b1,o1 + j1 * 3,none⟩) ∧ AppR 5 B w v s (([] ++ X_0 ++ X_1 ++ X_2 ++ XL_3 ++ T1 ++ Xe1_0 ++ XLe1_1) ++ XEe1_1) r w')
        (W.loop (fun ρ w' => ∃ (j : Nat) (r : Value),j ≤ (y1.at 1).l.length ∧ ρ 135 = .int .i64 j ∧ ρ 134 = .int .i64 (y1.at 1).l.length ∧ ρ 14 = .slice abe1_1 (y1.at 1).l.length ace1_1 ∧ ρ 1 = r ∧ ρ 0 = .pointer (some ⟨vb,0,none⟩) ∧ ρ 5 = .int .i16 ver ∧ ρ 6 = .bool true ∧ ρ 103 = .int .i64 j1 ∧ ρ 102 = .int .i64 (t.at 3).l.length ∧ ρ 10 = .slice (some ⟨b1,o1,none⟩) (t.at 3).l.length ac_3 ∧ ρ 12 = .pointer (some ⟨b1,o1 + j1 * 3,none⟩) ∧ AppR 5 B w v s (([] ++ X_0 ++ X_1 ++ X_2 ++ XL_3 ++ T1 ++ Xe1_0 ++ XLe1_1) ++ ((y1.at 1).l.take j).flatMap (fun x : Tree => fixedS x.n 4)) r w')
          (fun ρ _ => (y1.at 1).l.length - (RowKit.intOf (ρ 135)).toNat) ?_ ?_) ?_
      · refine ⟨0,_,Nat.zero_le _,?_,?_,?_,?_,?_,?_,?_,?_,?_,?_,?_,ha7.eqs (by rw [List.take_zero,List.flatMap_nil,List.append_nil])⟩ <;> simp (maxSteps:=1000000)(disch:=(first|omega|(simp only [qI,qJ,qK]<;>omega)|exact qL _)) only [go_sem,↓reduceIte,n0,reduceCtorEq,n1,n2,n3,n4,n5,i0,i1,i2,i3,i4,i5,i6,i7,hr1_1,hr1_0,hr1_5,hr1_6,hI1,hN1,hS1]
        all_goals rfl
      · rintro ρ w8 ⟨j2,r8,hj2,hI2,hN2,hS2,hr1_2,hr2_0,hr2_5,hr2_6,hr2_103,hr2_102,hr2_10,hr2_12,ha8⟩
        have hB8 : B ≤ w8.heap.size := Nat.le_trans hB ha8.upd.size
        have hv_8 := ha8.upd.blk_some hv hdv
        have hx1_8 := ha8.upd.blk_some hx1 hnx1
        by_cases hlt2 : j2 < (y1.at 1).l.length
        · obtain ⟨_,b2,o2,x2,ce2,hb2,hok2,hx2,hbl2,hxs2,hxe2,hq2,hRe2⟩ := SlR.get (size := 1) (by decide) hse1_1 hlt2
          subst hb2
          have hcat2 : (y1.at 1).l.take (j2 + 1) = (y1.at 1).l.take j2 ++ [(y1.at 1).l[j2]] := List.take_succ_eq_append_getElem hlt2
          have htl2 := take_flatMap_len (y1.at 1).l (fun x : Tree => fixedS x.n 4) (j2 + 1)
          rw [← hXEe1_1,hcat2,List.flatMap_append,List.flatMap_cons,List.flatMap_nil,List.append_nil] at htl2
          have hge2 := hgle1_1.2 _ (List.getElem_mem hlt2)
          generalize (y1.at 1).l[j2] = y2 at *
          have hnx2 := hd b2 hbl2 hok2
          obtain ⟨T2,hTT2⟩ : ∃ T,T = ((y1.at 1).l.take j2).flatMap (fun x : Tree => fixedS x.n 4) := ⟨_,rfl⟩
          rw [← hTT2] at ha8 htl2
          have hx2_8 := ha8.upd.blk_some hx2 hnx2
          obtain rfl := (Rep1_num (by decide)).1 hRe2
          have hq2_0 : x2.1[o2 + j2]? = some (.int .i32 (IntKind.i32.wrap y2.n)) := by have := hq2 0 (by decide);rw [Nat.mul_one] at this;exact this
          obtain ⟨Y2,hY2⟩ : ∃ Y,Y = fixedS (y2).n 4 := ⟨_,rfl⟩
          replace htl2 : (T2 ++ Y2).length ≤ XEe1_1.length := by rw [hY2];exact htl2
          simp only [List.length_append] at htl2
          repeat ((first | refine qA rfl ?_|apply qB|refine qC rfl ?_|apply qD|apply qE|apply qF|apply qG|apply qH);try simp (maxSteps:=1000000)(disch:=(first|omega|(simp only [qI,qJ,qK]<;>omega)|exact qL _)) only [go_sem,↓reduceIte,n0,reduceCtorEq,n1,n2,n3,n4,n5,i0,i1,i2,i3,i4,i5,i6,i7,hv_8,hx1_8,hx2_8,Int.toNat_natCast,Nat.mul_one,hq1_0,hq1_1,hq1_2,hq2_0,hr1_2,hr2_0,hr2_5,hr2_6,hr2_103,hr2_102,hr2_10,hr2_12,hI2,hN2,hS2])
          refine (AppendInt32_fn _ _ _ ha8.own hB8 _ (by simp only [List.length_append,List.length_nil];omega)).mono ?_
          rintro r9 w9 hc9
          rw [wrap32,← hY2] at hc9
          have ha9 := ha8.trans hc9
          have hB9 : B ≤ w9.heap.size := Nat.le_trans hB ha9.upd.size
          have hv_9 := ha9.upd.blk_some hv hdv
          have hx1_9 := ha9.upd.blk_some hx1 hnx1
          have hx2_9 := ha9.upd.blk_some hx2 hnx2
          repeat ((first | refine qA rfl ?_|apply qB|refine qC rfl ?_|apply qD|apply qE|apply qF|apply qG|apply qH);try simp (maxSteps:=1000000)(disch:=(first|omega|(simp only [qI,qJ,qK]<;>omega)|exact qL _)) only [go_sem,↓reduceIte,n0,reduceCtorEq,n1,n2,n3,n4,n5,i0,i1,i2,i3,i4,i5,i6,i7,hr1_2,hr2_0,hr2_5,hr2_6,hr2_103,hr2_102,hr2_10,hr2_12,hI2,hN2,hS2])
          refine ⟨⟨j2 + 1,_,by omega,rfl,rfl,ha9.eqs ?_⟩,?_⟩
          · rw [hcat2,List.flatMap_append,List.flatMap_cons,List.flatMap_nil,List.append_nil,← hTT2,hY2];simp only [List.append_assoc,List.append_nil,List.nil_append]
          · simp only [RowKit.intOf];omega
        · have hjl2 : j2 = (y1.at 1).l.length := by omega
          subst hjl2
          rw [List.take_length,← hXEe1_1] at ha8
          repeat ((first | refine qA rfl ?_|apply qB|refine qC rfl ?_|apply qD|apply qE|apply qF|apply qG|apply qH);try simp (maxSteps:=1000000)(disch:=(first|omega|(simp only [qI,qJ,qK]<;>omega)|exact qL _)) only [go_sem,↓reduceIte,n0,reduceCtorEq,n1,n2,n3,n4,n5,i0,i1,i2,i3,i4,i5,i6,i7,hI2,hN2])
          exact ⟨_,hr1_2,hr2_0,hr2_5,hr2_6,hr2_103,hr2_102,hr2_10,hr2_12,ha8⟩
      · rintro ρ w10 ⟨r10,hr1_3,hr3_0,hr3_5,hr3_6,hr3_103,hr3_102,hr3_10,hr3_12,ha10⟩
        have hB10 : B ≤ w10.heap.size := Nat.le_trans hB ha10.upd.size
        have hv_10 := ha10.upd.blk_some hv hdv
        have hx1_10 := ha10.upd.blk_some hx1 hnx1
        repeat ((first | refine qA rfl ?_|apply qB|refine qC rfl ?_|apply qD|apply qE|apply qF|apply qG|apply qH);try simp (maxSteps:=1000000)(disch:=(first|omega|(simp only [qI,qJ,qK]<;>omega)|exact qL _)) only [go_sem,↓reduceIte,n0,reduceCtorEq,n1,n2,n3,n4,n5,i0,i1,i2,i3,i4,i5,i6,i7,hv_10,hx1_10,Int.toNat_natCast,Nat.mul_one,hq1_0,hq1_1,hq1_2,hr1_3,hr3_0,hr3_5,hr3_6,hr3_103,hr3_102,hr3_10,hr3_12])
        have hTk10 : TagsM (OkS okM w.heap.size) w10 (.map qme1) y1.u := (hTe1.weaken fun b h1 h2 => ⟨h2,h1⟩).keep (ha10.upd.keeps fun b hb hk => hd b hb hk.1)
        refine (TagsLen_fn (ok := OkS okM w.heap.size) w10 hx1_10 (to := o1 + (j1 * 3 + 2)) hq1_2 hTk10).mono ?_
        rintro _ w10' ⟨rfl,rfl⟩
        have hul10 : y1.u.length ≤ 32767 := hfue1.1
        have ew10 : IntKind.u32.wrap (y1.u.length : Int) = y1.u.length := u32_wrap (by omega)
        have ez10 : IntKind.u32.wrap (0 + (y1.u.length : Int)) = y1.u.length := by rw [Int.zero_add,u32_wrap (by omega)]
        simp (maxSteps:=1000000)(disch:=(first|omega|(simp only [qI,qJ,qK]<;>omega)|exact qL _)) only [go_sem,↓reduceIte,n0,reduceCtorEq,n1,n2,n3,n4,n5,i0,i1,i2,i3,i4,i5,i6,i7,hv_10,hx1_10,Int.toNat_natCast,Nat.mul_one,hq1_0,hq1_1,hq1_2,hr1_3,hr3_0,hr3_5,hr3_6,hr3_103,hr3_102,hr3_10,hr3_12,ew10,ez10]
        refine (AppendUvarint_fn _ _ _ ha10.own hB10 y1.u.length (by omega) (by simp only [List.length_append,List.length_nil];omega)).mono ?_
        rintro r11 w11 hc11
        rw [← hXUe1] at hc11
        have ha11 := ha10.trans hc11
        have hB11 : B ≤ w11.heap.size := Nat.le_trans hB ha11.upd.size
        have hv_11 := ha11.upd.blk_some hv hdv
        have hx1_11 := ha11.upd.blk_some hx1 hnx1
        repeat ((first | refine qA rfl ?_|apply qB|refine qC rfl ?_|apply qD|apply qE|apply qF|apply qG|apply qH);try simp (maxSteps:=1000000)(disch:=(first|omega|(simp only [qI,qJ,qK]<;>omega)|exact qL _)) only [go_sem,↓reduceIte,n0,reduceCtorEq,n1,n2,n3,n4,n5,i0,i1,i2,i3,i4,i5,i6,i7,hv_11,hx1_11,Int.toNat_natCast,Nat.mul_one,hq1_0,hq1_1,hq1_2,hr1_3,hr3_0,hr3_5,hr3_6,hr3_103,hr3_102,hr3_10,hr3_12])
        have hTk11 : TagsM (OkS okM w.heap.size) w11 (.map qme1) y1.u := (hTe1.weaken fun b h1 h2 => ⟨h2,h1⟩).keep (ha11.upd.keeps fun b hb hk => hd b hb hk.1)
        refine (AppendEach_fn (ok := OkS okM w.heap.size) _ _ _ ha11.own hB11 hx1_11 (to := o1 + (j1 * 3 + 2)) hq1_2 hTk11 (rising_keys hfue1) hfue1.1 (tags_small hfue1 hTk11) (hdK ha11) (ownK ha11 (blk_lt hx1) hnx1) (by simp only [List.length_append,List.length_nil];omega)).mono ?_
        rintro r12 w12 hc12
        rw [← hXTe1] at hc12
        have ha12 := ha11.trans hc12
        have hB12 : B ≤ w12.heap.size := Nat.le_trans hB ha12.upd.size
        have hv_12 := ha12.upd.blk_some hv hdv
        have hx1_12 := ha12.upd.blk_some hx1 hnx1
        repeat ((first | refine qA rfl ?_|apply qB|refine qC rfl ?_|apply qD|apply qE|apply qF|apply qG|apply qH);try simp (maxSteps:=1000000)(disch:=(first|omega|(simp only [qI,qJ,qK]<;>omega)|exact qL _)) only [go_sem,↓reduceIte,n0,reduceCtorEq,n1,n2,n3,n4,n5,i0,i1,i2,i3,i4,i5,i6,i7,hr1_3,hr3_0,hr3_5,hr3_6,hr3_103,hr3_102,hr3_10,hr3_12])
        refine ⟨⟨j1 + 1,_,by omega,rfl,rfl,ha12.eqs ?_⟩,?_⟩
        · rw [hcat1,List.flatMap_append,List.flatMap_cons,List.flatMap_nil,List.append_nil,← hTT1,hPe1];simp only [List.append_assoc,List.append_nil,List.nil_append]
        · simp only [RowKit.intOf];omega
    · have hjl1 : j1 = (t.at 3).l.length := by omega
      subst hjl1
      rw [List.take_length,← hXE_3] at ha5
      repeat ((first | refine qA rfl ?_|apply qB|refine qC rfl ?_|apply qD|apply qE|apply qF|apply qG|apply qH);try simp (maxSteps:=1000000)(disch:=(first|omega|(simp only [qI,qJ,qK]<;>omega)|exact qL _)) only [go_sem,↓reduceIte,n0,reduceCtorEq,n1,n2,n3,n4,n5,i0,i1,i2,i3,i4,i5,i6,i7,hI1,hN1])
      exact ⟨_,hr1_1,hr1_0,hr1_5,hr1_6,ha5⟩
  · rintro ρ w13 ⟨r13,hr1_4,hr4_0,hr4_5,hr4_6,ha13⟩
    have hB13 : B ≤ w13.heap.size := Nat.le_trans hB ha13.upd.size
    have hv_13 := ha13.upd.blk_some hv hdv
    repeat ((first | refine qA rfl ?_|apply qB|refine qC rfl ?_|apply qD|apply qE|apply qF|apply qG|apply qH);try simp (maxSteps:=1000000)(disch:=(first|omega|(simp only [qI,qJ,qK]<;>omega)|exact qL _)) only [go_sem,↓reduceIte,n0,reduceCtorEq,n1,n2,n3,n4,n5,i0,i1,i2,i3,i4,i5,i6,i7,hv_13,hr1_4,hr4_0,hr4_5,hr4_6])
    have hTk13 : TagsM (OkS okM w.heap.size) w13 (.map qm) t.u := (hT.weaken fun b h1 h2 => ⟨h2,h1⟩).keep (ha13.upd.keeps fun b hb hk => hd b hb hk.1)
    refine (TagsLen_fn (ok := OkS okM w.heap.size) w13 hv_13 (to := 6) (show (#[.int .i16 ver,strV (t.at 0).s,.int .i64 (t.at 1).n,.int .i16 (IntKind.i16.wrap (t.at 2).n),.slice ab_3 (t.at 3).l.length ac_3,p_4,.map qm] : Array Value)[6]? = some (.map qm) from rfl) hTk13).mono ?_
    rintro _ w13' ⟨rfl,rfl⟩
    have hul13 : t.u.length ≤ 32767 := hfu.1
    have ew13 : IntKind.u32.wrap (t.u.length : Int) = t.u.length := u32_wrap (by omega)
    have ez13 : IntKind.u32.wrap (0 + (t.u.length : Int)) = t.u.length := by rw [Int.zero_add,u32_wrap (by omega)]
    simp (maxSteps:=1000000)(disch:=(first|omega|(simp only [qI,qJ,qK]<;>omega)|exact qL _)) only [go_sem,↓reduceIte,n0,reduceCtorEq,n1,n2,n3,n4,n5,i0,i1,i2,i3,i4,i5,i6,i7,hv_13,hr1_4,hr4_0,hr4_5,hr4_6,ew13,ez13]
    refine (AppendUvarint_fn _ _ _ ha13.own hB13 t.u.length (by omega) (by simp only [List.length_append,List.length_nil];omega)).mono ?_
    rintro r14 w14 hc14
    rw [← hXU] at hc14
    have ha14 := ha13.trans hc14
    have hB14 : B ≤ w14.heap.size := Nat.le_trans hB ha14.upd.size
    have hv_14 := ha14.upd.blk_some hv hdv
    repeat ((first | refine qA rfl ?_|apply qB|refine qC rfl ?_|apply qD|apply qE|apply qF|apply qG|apply qH);try simp (maxSteps:=1000000)(disch:=(first|omega|(simp only [qI,qJ,qK]<;>omega)|exact qL _)) only [go_sem,↓reduceIte,n0,reduceCtorEq,n1,n2,n3,n4,n5,i0,i1,i2,i3,i4,i5,i6,i7,hv_14,hr1_4,hr4_0,hr4_5,hr4_6])
    have hTk14 : TagsM (OkS okM w.heap.size) w14 (.map qm) t.u := (hT.weaken fun b h1 h2 => ⟨h2,h1⟩).keep (ha14.upd.keeps fun b hb hk => hd b hb hk.1)
    refine (AppendEach_fn (ok := OkS okM w.heap.size) _ _ _ ha14.own hB14 hv_14 (to := 6) (show (#[.int .i16 ver,strV (t.at 0).s,.int .i64 (t.at 1).n,.int .i16 (IntKind.i16.wrap (t.at 2).n),.slice ab_3 (t.at 3).l.length ac_3,p_4,.map qm] : Array Value)[6]? = some (.map qm) from rfl) hTk14 (rising_keys hfu) hfu.1 (tags_small hfu hTk14) (hdK ha14) (ownK ha14 (blk_lt hv) hdv) (by simp only [List.length_append,List.length_nil];omega)).mono ?_
    rintro r15 w15 hc15
    rw [← hXT] at hc15
    have ha15 := ha14.trans hc15
    have hB15 : B ≤ w15.heap.size := Nat.le_trans hB ha15.upd.size
    have hv_15 := ha15.upd.blk_some hv hdv
    repeat ((first | refine qA rfl ?_|apply qB|refine qC rfl ?_|apply qD|apply qE|apply qF|apply qG|apply qH);try simp (maxSteps:=1000000)(disch:=(first|omega|(simp only [qI,qJ,qK]<;>omega)|exact qL _)) only [go_sem,↓reduceIte,n0,reduceCtorEq,n1,n2,n3,n4,n5,i0,i1,i2,i3,i4,i5,i6,i7,hv_15,hr1_4,hr4_0,hr4_5,hr4_6])
    refine ha15.eqs ?_
    rw [hP];simp only [List.append_assoc,List.append_nil,List.nil_append]

set_option maxHeartbeats 4000000 in
theorem appQ_2 {d B : Nat} {okM : Blocks} {ver : Int} (hlo : 4 ≤ ver) (hhi : ver ≤ 5) (t : Tree) (cells : List Value) (v : Value) (s : List UInt8) (w : World) {vb : Nat} (ho : OwnBy 5 B w v s) (hB : B ≤ w.heap.size) (hvb : blk w vb = some ((.int .i16 ver :: cells).toArray,69,(0,0)))
    (hR : RepS true (d + 3) fs_Q okM w t cells) (hfit : FitW ver (d + 3) fs_Q t) (hd : ∀ b,b < w.heap.size → okM b → ¬ ownB v b) (hdv : ¬ ownB v vb) (hlen : s.length + (partS (d + 3) fs_Q ver true t).length ≤ 2 ^ 41) :
    Fn Tryz.prog 92 #[.pointer (some ⟨vb,0,none⟩),v] w fun r w' => AppR 5 B w v s (partS (d + 3) fs_Q ver true t) r w' := by
  obtain ⟨⟨g_0,g_1,g_2,g_3,g_4,-⟩,hfu⟩ := hfit
  replace g_0 : hasS fQ_0 ver = true → FitWF (FitW ver (d + 2)) ver fQ_0 (t.at 0) := g_0
  have hh_0 : hasS fQ_0 ver = false := hasS_f (by show ver < 0 ∨ (0 ≤ (3 : Int) ∧ (3 : Int) < ver);omega)
  clear g_0
  replace g_1 : hasS fQ_1 ver = true → FitWF (FitW ver (d + 2)) ver fQ_1 (t.at 1) := g_1
  have hh_1 : hasS fQ_1 ver = false := hasS_f (by show ver < 0 ∨ (0 ≤ (3 : Int) ∧ (3 : Int) < ver);omega)
  clear g_1
  replace g_2 : hasS fQ_2 ver = true → FitWF (FitW ver (d + 2)) ver fQ_2 (t.at 2) := g_2
  have hh_2 : hasS fQ_2 ver = false := hasS_f (by show ver < 0 ∨ (0 ≤ (3 : Int) ∧ (3 : Int) < ver);omega)
  clear g_2
  replace g_3 : hasS fQ_3 ver = true → FitWF (FitW ver (d + 2)) ver fQ_3 (t.at 3) := g_3
  have hh_3 : hasS fQ_3 ver = false := hasS_f (by show ver < 0 ∨ (0 ≤ (3 : Int) ∧ (3 : Int) < ver);omega)
  clear g_3
  replace g_4 : hasS fQ_4 ver = true → FitWF (FitW ver (d + 2)) ver fQ_4 (t.at 4) := g_4
  have hh_4 : hasS fQ_4 ver = true := hasS_t (by show (4 : Int) ≤ ver;omega) (by show (-1 : Int) < 0 ∨ ver ≤ (-1 : Int);omega)
  replace g_4 := g_4 hh_4
  obtain ⟨cs,q,hcs,hL,hT⟩ := hR.inv
  obtain ⟨c_0,e_0,rfl,h_0,c_1,e_1,rfl,h_1,c_2,e_2,rfl,h_2,c_3,e_3,rfl,h_3,c_4,e_4,rfl,h_4,rfl⟩ := hL
  replace h_0 : RepF (RepS true (d + 2)) (szS true (d + 2)) fQ_0 okM w (t.at 0) c_0 := h_0
  replace h_1 : RepF (RepS true (d + 2)) (szS true (d + 2)) fQ_1 okM w (t.at 1) c_1 := h_1
  replace h_2 : RepF (RepS true (d + 2)) (szS true (d + 2)) fQ_2 okM w (t.at 2) c_2 := h_2
  replace h_3 : RepF (RepS true (d + 2)) (szS true (d + 2)) fQ_3 okM w (t.at 3) c_3 := h_3
  replace h_4 : RepF (RepS true (d + 2)) (szS true (d + 2)) fQ_4 okM w (t.at 4) c_4 := h_4
  obtain rfl := (RepF_text rfl (by decide)).1 h_0
  obtain rfl := (RepF_num (by decide)).1 h_1
  obtain rfl := (RepF_num (by decide)).1 h_2
  obtain ⟨p_3,rfl⟩ := RepF_any (by decide) h_3
  obtain ⟨p_4,rfl,hs_4⟩ := RepF_listW g_4 rfl (by decide) h_4
  obtain ⟨ab_4,ac_4,rfl,_⟩ := SlR.shape hs_4
  have hgl_4 := g_4.list rfl
  have hll_4 := hgl_4.1
  obtain ⟨qm,rfl⟩ := hT.shape
  have hv : blk w vb = some (#[.int .i16 ver,strV (t.at 0).s,.int .i64 (t.at 1).n,.int .i16 (IntKind.i16.wrap (t.at 2).n),p_3,.slice ab_4 (t.at 4).l.length ac_4,.map qm],69,(0,0)) := by rw [hvb,hcs];rfl
  clear hvb hcs
  obtain ⟨XL_4,hXL_4⟩ : ∃ X,X = uvarS ((t.at 4).l.length + 1) := ⟨_,rfl⟩
  obtain ⟨XE_4,hXE_4⟩ : ∃ X,X = (t.at 4).l.flatMap (fun x => partS (d + 2) fs_X1 ver true x) := ⟨_,rfl⟩
  obtain ⟨XU,hXU⟩ : ∃ X,X = uvarS t.u.length := ⟨_,rfl⟩
  obtain ⟨XT,hXT⟩ : ∃ X,X = t.u.flatMap oneTag := ⟨_,rfl⟩
  have hP : partS (d + 3) fs_Q ver true t = ((XL_4 ++ XE_4) ++ []) ++ (XU ++ XT) := by rw [hXU,hXT];exact partS_yes rfl hfu (plainL_not hh_0 (plainL_not hh_1 (plainL_not hh_2 (plainL_not hh_3 (plainL_has (by decide) hh_4 ((fieldS_list_t (g := (fun x => partS (d + 2) fs_X1 ver true x)) g_4 rfl (by decide) (fun x _ => valueS_part)).trans (by rw [hXL_4,hXE_4])) rfl)))))
  rw [hP] at hlen
  simp only [List.length_append,List.length_nil] at hlen
  have hdK : ∀ {r : Value} {w' : World} {add : List UInt8},AppR 5 B w v s add r w' → ∀ b,b < w'.heap.size → OkS okM w.heap.size b → ¬ ownB r b := fun h b _ hk ho => (h.frame b ho).elim (hd b hk.2 hk.1) (fun h => by have := hk.2;omega)
  have ownK : ∀ {r : Value} {w' : World} {add : List UInt8} {b : Nat},AppR 5 B w v s add r w' → b < w.heap.size → ¬ ownB v b → ¬ ownB r b := fun h hb hn ho => (h.frame _ ho).elim hn (fun h => by omega)
  have ha0 : AppR 5 B w v s [] v w := AppR.refl ho
  obtain ⟨w0,hw0⟩ : ∃ w0,w0 = w := ⟨_,rfl⟩
  have hB0 := hB
  have hv_0 := hv
  refine fn_of_W Tryz.func92 rfl Tryz.results92 Tryz.ntmps92 rfl ?_
  repeat ((first | refine qA rfl ?_|apply qB|refine qC rfl ?_|apply qD|apply qE|apply qF|apply qG|apply qH);try simp (maxSteps:=1000000)(disch:=(first|omega|(simp only [qI,qJ,qK]<;>omega)|exact qL _)) only [go_sem,↓reduceIte,n0,reduceCtorEq,n1,n2,n3,n4,n5,i0,i1,i2,i3,i4,i5,i6,i7,hv_0])
  refine (AppendCompactArrayLen_fn _ _ _ ha0.own hB0 (t.at 4).l.length hll_4 (by simp only [List.length_append,List.length_nil];omega)).mono ?_
  rintro r1 w1 hc1
  rw [← hXL_4] at hc1
  have ha1 := ha0.trans hc1
  have hB1 : B ≤ w1.heap.size := Nat.le_trans hB ha1.upd.size
  have hv_1 := ha1.upd.blk_some hv hdv
  repeat ((first | refine qA rfl ?_|apply qB|refine qC rfl ?_|apply qD|apply qE|apply qF|apply qG|apply qH);try simp (maxSteps:=1000000)(disch:=(first|omega|(simp only [qI,qJ,qK]<;>omega)|exact qL _)) only [go_sem,↓reduceIte,n0,reduceCtorEq,n1,n2,n3,n4,n5,i0,i1,i2,i3,i4,i5,i6,i7,hv_1])
  have hadd1 := ha1
  refine W.exitJ 4 (fun ρ w' => ∃ r,ρ 1 = r ∧ ρ 0 = .pointer (some ⟨vb,0,none⟩) ∧ ρ 5 = .int .i16 ver ∧ ρ 6 = .bool true ∧ AppR 5 B w v s (([] ++ XL_4) ++ XE_4) r w')
    (W.loop (fun ρ w' => ∃ (j : Nat) (r : Value),j ≤ (t.at 4).l.length ∧ ρ 178 = .int .i64 j ∧ ρ 177 = .int .i64 (t.at 4).l.length ∧ ρ 17 = .slice ab_4 (t.at 4).l.length ac_4 ∧ ρ 1 = r ∧ ρ 0 = .pointer (some ⟨vb,0,none⟩) ∧ ρ 5 = .int .i16 ver ∧ ρ 6 = .bool true ∧ AppR 5 B w v s (([] ++ XL_4) ++ ((t.at 4).l.take j).flatMap (fun x => partS (d + 2) fs_X1 ver true x)) r w')
      (fun ρ _ => (t.at 4).l.length - (RowKit.intOf (ρ 178)).toNat) ?_ ?_) ?_
  · refine ⟨0,_,Nat.zero_le _,?_,?_,?_,?_,?_,?_,?_,ha1.eqs (by rw [List.take_zero,List.flatMap_nil,List.append_nil])⟩ <;> simp (maxSteps:=1000000)(disch:=(first|omega|(simp only [qI,qJ,qK]<;>omega)|exact qL _)) only [go_sem,↓reduceIte,n0,reduceCtorEq,n1,n2,n3,n4,n5,i0,i1,i2,i3,i4,i5,i6,i7]
    all_goals rfl
  · rintro ρ w2 ⟨j1,r2,hj1,hI1,hN1,hS1,hr1_1,hr1_0,hr1_5,hr1_6,ha2⟩
    have hB2 : B ≤ w2.heap.size := Nat.le_trans hB ha2.upd.size
    have hv_2 := ha2.upd.blk_some hv hdv
    by_cases hlt1 : j1 < (t.at 4).l.length
    · obtain ⟨_,b1,o1,x1,ce1,hb1,hok1,hx1,hbl1,hxs1,hxe1,hq1,hRe1⟩ := SlR.get (size := 6) (by decide) hs_4 hlt1
      subst hb1
      have hcat1 : (t.at 4).l.take (j1 + 1) = (t.at 4).l.take j1 ++ [(t.at 4).l[j1]] := List.take_succ_eq_append_getElem hlt1
      have htl1 := take_flatMap_len (t.at 4).l (fun x => partS (d + 2) fs_X1 ver true x) (j1 + 1)
      rw [← hXE_4,hcat1,List.flatMap_append,List.flatMap_cons,List.flatMap_nil,List.append_nil] at htl1
      have hge1 := hgl_4.2 _ (List.getElem_mem hlt1)
      generalize (t.at 4).l[j1] = y1 at *
      have hnx1 := hd b1 hbl1 hok1
      obtain ⟨T1,hTT1⟩ : ∃ T,T = ((t.at 4).l.take j1).flatMap (fun x => partS (d + 2) fs_X1 ver true x) := ⟨_,rfl⟩
      rw [← hTT1] at ha2 htl1
      have hx1_2 := ha2.upd.blk_some hx1 hnx1
      replace hRe1 : RepS true (d + 2) fs_X1 okM w y1 ce1 := Rep1_part.1 hRe1
      have hfe1 : FitW ver (d + 2) fs_X1 y1 := hge1.2 rfl
      obtain ⟨⟨ge1_0,ge1_1,ge1_2,ge1_3,ge1_4,-⟩,hfue1⟩ := hfe1
      replace ge1_0 : hasS fX1_0 ver = true → FitWF (FitW ver (d + 1)) ver fX1_0 (y1.at 0) := ge1_0
      have hhe1_0 : hasS fX1_0 ver = true := hasS_t (by show (0 : Int) ≤ ver;omega) (by show (-1 : Int) < 0 ∨ ver ≤ (-1 : Int);omega)
      replace ge1_0 := ge1_0 hhe1_0
      replace ge1_1 : hasS fX1_1 ver = true → FitWF (FitW ver (d + 1)) ver fX1_1 (y1.at 1) := ge1_1
      have hhe1_1 : hasS fX1_1 ver = true := hasS_t (by show (0 : Int) ≤ ver;omega) (by show (-1 : Int) < 0 ∨ ver ≤ (-1 : Int);omega)
      replace ge1_1 := ge1_1 hhe1_1
      replace ge1_2 : hasS fX1_2 ver = true → FitWF (FitW ver (d + 1)) ver fX1_2 (y1.at 2) := ge1_2
      have hhe1_2 : hasS fX1_2 ver = true := hasS_t (by show (0 : Int) ≤ ver;omega) (by show (-1 : Int) < 0 ∨ ver ≤ (-1 : Int);omega)
      replace ge1_2 := ge1_2 hhe1_2
      replace ge1_3 : hasS fX1_3 ver = true → FitWF (FitW ver (d + 1)) ver fX1_3 (y1.at 3) := ge1_3
      have hhe1_3 : hasS fX1_3 ver = true := hasS_t (by show (0 : Int) ≤ ver;omega) (by show (-1 : Int) < 0 ∨ ver ≤ (-1 : Int);omega)
      replace ge1_3 := ge1_3 hhe1_3
      replace ge1_4 : hasS fX1_4 ver = true → FitWF (FitW ver (d + 1)) ver fX1_4 (y1.at 4) := ge1_4
      have hhe1_4 : hasS fX1_4 ver = true := hasS_t (by show (0 : Int) ≤ ver;omega) (by show (-1 : Int) < 0 ∨ ver ≤ (-1 : Int);omega)
      replace ge1_4 := ge1_4 hhe1_4
      obtain ⟨cse1,qe1,hcse1,hLe1,hTe1⟩ := hRe1.inv
      obtain ⟨ce1_0,ee1_0,rfl,he1_0,ce1_1,ee1_1,rfl,he1_1,ce1_2,ee1_2,rfl,he1_2,ce1_3,ee1_3,rfl,he1_3,ce1_4,ee1_4,rfl,he1_4,rfl⟩ := hLe1
      replace he1_0 : RepF (RepS true (d + 1)) (szS true (d + 1)) fX1_0 okM w (y1.at 0) ce1_0 := he1_0
      replace he1_1 : RepF (RepS true (d + 1)) (szS true (d + 1)) fX1_1 okM w (y1.at 1) ce1_1 := he1_1
      replace he1_2 : RepF (RepS true (d + 1)) (szS true (d + 1)) fX1_2 okM w (y1.at 2) ce1_2 := he1_2
      replace he1_3 : RepF (RepS true (d + 1)) (szS true (d + 1)) fX1_3 okM w (y1.at 3) ce1_3 := he1_3
      replace he1_4 : RepF (RepS true (d + 1)) (szS true (d + 1)) fX1_4 okM w (y1.at 4) ce1_4 := he1_4
      obtain rfl := (RepF_text rfl (by decide)).1 he1_0
      obtain rfl := (RepF_num (by decide)).1 he1_1
      obtain rfl := (RepF_num (by decide)).1 he1_2
      obtain rfl := (RepF_num (by decide)).1 he1_3
      obtain ⟨pe1_4,rfl,hse1_4⟩ := RepF_listW ge1_4 rfl (by decide) he1_4
      obtain ⟨abe1_4,ace1_4,rfl,_⟩ := SlR.shape hse1_4
      have hgle1_4 := ge1_4.list rfl
      have hlle1_4 := hgle1_4.1
      obtain ⟨qme1,rfl⟩ := hTe1.shape
      subst hcse1
      have hq1_0 : x1.1[o1 + j1 * 6]? = some (strV (y1.at 0).s) := hq1 0 (by decide)
      have hq1_1 : x1.1[o1 + (j1 * 6 + 1)]? = some (.int .i64 (y1.at 1).n) := hq1 1 (by decide)
      have hq1_2 : x1.1[o1 + (j1 * 6 + 2)]? = some (.int .i16 (IntKind.i16.wrap (y1.at 2).n)) := hq1 2 (by decide)
      have hq1_3 : x1.1[o1 + (j1 * 6 + 3)]? = some (.bool (decide ((y1.at 3).n % 2 = 1))) := hq1 3 (by decide)
      have hq1_4 : x1.1[o1 + (j1 * 6 + 4)]? = some (.slice abe1_4 (y1.at 4).l.length ace1_4) := hq1 4 (by decide)
      have hq1_5 : x1.1[o1 + (j1 * 6 + 5)]? = some (.map qme1) := hq1 5 (by decide)
      obtain ⟨Xe1_0,hXXe1_0⟩ : ∃ X,X = uvarS ((y1.at 0).s.length + 1) ++ (y1.at 0).s := ⟨_,rfl⟩
      obtain ⟨Xe1_1,hXXe1_1⟩ : ∃ X,X = fixedS (y1.at 1).n 8 := ⟨_,rfl⟩
      obtain ⟨Xe1_2,hXXe1_2⟩ : ∃ X,X = fixedS (y1.at 2).n 2 := ⟨_,rfl⟩
      obtain ⟨Xe1_3,hXXe1_3⟩ : ∃ X,X = [if decide ((y1.at 3).n % 2 = 1) = true then (1 : UInt8) else 0] := ⟨_,rfl⟩
      obtain ⟨XLe1_4,hXLe1_4⟩ : ∃ X,X = uvarS ((y1.at 4).l.length + 1) := ⟨_,rfl⟩
      obtain ⟨XEe1_4,hXEe1_4⟩ : ∃ X,X = (y1.at 4).l.flatMap (fun x => partS (d + 1) fs_X0 ver true x) := ⟨_,rfl⟩
      obtain ⟨XUe1,hXUe1⟩ : ∃ X,X = uvarS y1.u.length := ⟨_,rfl⟩
      obtain ⟨XTe1,hXTe1⟩ : ∃ X,X = y1.u.flatMap oneTag := ⟨_,rfl⟩
      have hPe1 : partS (d + 2) fs_X1 ver true y1 = (Xe1_0 ++ (Xe1_1 ++ (Xe1_2 ++ (Xe1_3 ++ ((XLe1_4 ++ XEe1_4) ++ []))))) ++ (XUe1 ++ XTe1) := by rw [hXUe1,hXTe1];exact partS_yes rfl hfue1 (plainL_has (by decide) hhe1_0 ((fieldS_text_t ge1_0 rfl (by decide)).trans hXXe1_0.symm) (plainL_has (by decide) hhe1_1 ((fieldS_num 4 rfl (by decide)).trans hXXe1_1.symm) (plainL_has (by decide) hhe1_2 ((fieldS_num 2 rfl (by decide)).trans hXXe1_2.symm) (plainL_has (by decide) hhe1_3 ((fieldS_bool rfl).trans hXXe1_3.symm) (plainL_has (by decide) hhe1_4 ((fieldS_list_t (g := (fun x => partS (d + 1) fs_X0 ver true x)) ge1_4 rfl (by decide) (fun x _ => valueS_part)).trans (by rw [hXLe1_4,hXEe1_4])) rfl)))))
      rw [hPe1] at htl1
      simp only [List.length_append,List.length_nil] at htl1
      repeat ((first | refine qA rfl ?_|apply qB|refine qC rfl ?_|apply qD|apply qE|apply qF|apply qG|apply qH);try simp (maxSteps:=1000000)(disch:=(first|omega|(simp only [qI,qJ,qK]<;>omega)|exact qL _)) only [go_sem,↓reduceIte,n0,reduceCtorEq,n1,n2,n3,n4,n5,i0,i1,i2,i3,i4,i5,i6,i7,hv_2,hx1_2,Int.toNat_natCast,Nat.mul_one,hq1_0,hq1_1,hq1_2,hq1_3,hq1_4,hq1_5,hr1_1,hr1_0,hr1_5,hr1_6,hI1,hN1,hS1])
      refine (AppendCompactString_fn _ _ _ ha2.own hB2 (y1.at 0).s (ge1_0.text (.inl rfl)) (by simp only [List.length_append,List.length_nil];omega)).mono ?_
      rintro r3 w3 hc3
      rw [← hXXe1_0] at hc3
      have ha3 := ha2.trans hc3
      have hB3 : B ≤ w3.heap.size := Nat.le_trans hB ha3.upd.size
      have hv_3 := ha3.upd.blk_some hv hdv
      have hx1_3 := ha3.upd.blk_some hx1 hnx1
      repeat ((first | refine qA rfl ?_|apply qB|refine qC rfl ?_|apply qD|apply qE|apply qF|apply qG|apply qH);try simp (maxSteps:=1000000)(disch:=(first|omega|(simp only [qI,qJ,qK]<;>omega)|exact qL _)) only [go_sem,↓reduceIte,n0,reduceCtorEq,n1,n2,n3,n4,n5,i0,i1,i2,i3,i4,i5,i6,i7,hv_3,hx1_3,Int.toNat_natCast,Nat.mul_one,hq1_0,hq1_1,hq1_2,hq1_3,hq1_4,hq1_5,hr1_1,hr1_0,hr1_5,hr1_6,hI1,hN1,hS1])
      refine (AppendInt64_fn _ _ _ ha3.own hB3 _ (by simp only [List.length_append,List.length_nil];omega)).mono ?_
      rintro r4 w4 hc4
      rw [← hXXe1_1] at hc4
      have ha4 := ha3.trans hc4
      have hB4 : B ≤ w4.heap.size := Nat.le_trans hB ha4.upd.size
      have hv_4 := ha4.upd.blk_some hv hdv
      have hx1_4 := ha4.upd.blk_some hx1 hnx1
      repeat ((first | refine qA rfl ?_|apply qB|refine qC rfl ?_|apply qD|apply qE|apply qF|apply qG|apply qH);try simp (maxSteps:=1000000)(disch:=(first|omega|(simp only [qI,qJ,qK]<;>omega)|exact qL _)) only [go_sem,↓reduceIte,n0,reduceCtorEq,n1,n2,n3,n4,n5,i0,i1,i2,i3,i4,i5,i6,i7,hv_4,hx1_4,Int.toNat_natCast,Nat.mul_one,hq1_0,hq1_1,hq1_2,hq1_3,hq1_4,hq1_5,hr1_1,hr1_0,hr1_5,hr1_6,hI1,hN1,hS1])
      refine (AppendInt16_fn _ _ _ ha4.own hB4 _ (by simp only [List.length_append,List.length_nil];omega)).mono ?_
      rintro r5 w5 hc5
      rw [wrap16,← hXXe1_2] at hc5
      have ha5 := ha4.trans hc5
      have hB5 : B ≤ w5.heap.size := Nat.le_trans hB ha5.upd.size
      have hv_5 := ha5.upd.blk_some hv hdv
      have hx1_5 := ha5.upd.blk_some hx1 hnx1
      repeat ((first | refine qA rfl ?_|apply qB|refine qC rfl ?_|apply qD|apply qE|apply qF|apply qG|apply qH);try simp (maxSteps:=1000000)(disch:=(first|omega|(simp only [qI,qJ,qK]<;>omega)|exact qL _)) only [go_sem,↓reduceIte,n0,reduceCtorEq,n1,n2,n3,n4,n5,i0,i1,i2,i3,i4,i5,i6,i7,hv_5,hx1_5,Int.toNat_natCast,Nat.mul_one,hq1_0,hq1_1,hq1_2,hq1_3,hq1_4,hq1_5,hr1_1,hr1_0,hr1_5,hr1_6,hI1,hN1,hS1])
      refine (AppendBool_fn _ _ _ ha5.own hB5 _ (by simp only [List.length_append,List.length_nil];omega)).mono ?_
      rintro r6 w6 hc6
      rw [← hXXe1_3] at hc6
      have ha6 := ha5.trans hc6
      have hB6 : B ≤ w6.heap.size := Nat.le_trans hB ha6.upd.size
      have hv_6 := ha6.upd.blk_some hv hdv
      have hx1_6 := ha6.upd.blk_some hx1 hnx1
      repeat ((first | refine qA rfl ?_|apply qB|refine qC rfl ?_|apply qD|apply qE|apply qF|apply qG|apply qH);try simp (maxSteps:=1000000)(disch:=(first|omega|(simp only [qI,qJ,qK]<;>omega)|exact qL _)) only [go_sem,↓reduceIte,n0,reduceCtorEq,n1,n2,n3,n4,n5,i0,i1,i2,i3,i4,i5,i6,i7,hv_6,hx1_6,Int.toNat_natCast,Nat.mul_one,hq1_0,hq1_1,hq1_2,hq1_3,hq1_4,hq1_5,hr1_1,hr1_0,hr1_5,hr1_6,hI1,hN1,hS1])
      refine (AppendCompactArrayLen_fn _ _ _ ha6.own hB6 (y1.at 4).l.length hlle1_4 (by simp only [List.length_append,List.length_nil];omega)).mono ?_
      rintro r7 w7 hc7
      rw [← hXLe1_4] at hc7
      have ha7 := ha6.trans hc7
      have hB7 : B ≤ w7.heap.size := Nat.le_trans hB ha7.upd.size
      have hv_7 := ha7.upd.blk_some hv hdv
      have hx1_7 := ha7.upd.blk_some hx1 hnx1
      repeat ((first | refine qA rfl ?_|apply qB|refine qC rfl ?_|apply qD|apply qE|apply qF|apply qG|apply qH);try simp (maxSteps:=1000000)(disch:=(first|omega|(simp only [qI,qJ,qK]<;>omega)|exact qL _)) only [go_sem,↓reduceIte,n0,reduceCtorEq,n1,n2,n3,n4,n5,i0,i1,i2,i3,i4,i5,i6,i7,hv_7,hx1_7,Int.toNat_natCast,Nat.mul_one,hq1_0,hq1_1,hq1_2,hq1_3,hq1_4,hq1_5,hr1_1,hr1_0,hr1_5,hr1_6,hI1,hN1,hS1])
      have hadd2 := ha7
      refine W.exitJ 6 (fun ρ w' => ∃ r,ρ 1 = r ∧ ρ 0 = .pointer (some ⟨vb,0,none⟩) ∧ ρ 5 = .int .i16 ver ∧ ρ 6 = .bool true ∧ ρ 178 = .int .i64 j1 ∧ ρ 177 = .int .i64 (t.at 4).l.length ∧ ρ 17 = .slice (some ⟨b1,o1,none⟩) (t.at 4).l.length ac_4 ∧ ρ 19 = .pointer (some ⟨b1,o1 + j1 * 6,none⟩) ∧ AppR 5 B w v s (([] ++ XL_4 ++ T1 ++ Xe1_0 ++ Xe1_1 ++ Xe1_2 ++ Xe1_3 ++ XLe1_4) ++ XEe1_4) r w')
        (W.loop (fun ρ w' => ∃ (j : Nat) (r : Value),j ≤ (y1.at 4).l.length ∧ ρ 231 = .int .i64 j ∧ ρ 230 = .int .i64 (y1.at 4).l.length ∧ ρ 24 = .slice abe1_4 (y1.at 4).l.length ace1_4 ∧ ρ 1 = r ∧ ρ 0 = .pointer (some ⟨vb,0,none⟩) ∧ ρ 5 = .int .i16 ver ∧ ρ 6 = .bool true ∧ ρ 178 = .int .i64 j1 ∧ ρ 177 = .int .i64 (t.at 4).l.length ∧ ρ 17 = .slice (some ⟨b1,o1,none⟩) (t.at 4).l.length ac_4 ∧ ρ 19 = .pointer (some ⟨b1,o1 + j1 * 6,none⟩) ∧ AppR 5 B w v s (([] ++ XL_4 ++ T1 ++ Xe1_0 ++ Xe1_1 ++ Xe1_2 ++ Xe1_3 ++ XLe1_4) ++ ((y1.at 4).l.take j).flatMap (fun x => partS (d + 1) fs_X0 ver true x)) r w')
          (fun ρ _ => (y1.at 4).l.length - (RowKit.intOf (ρ 231)).toNat) ?_ ?_) ?_
      · refine ⟨0,_,Nat.zero_le _,?_,?_,?_,?_,?_,?_,?_,?_,?_,?_,?_,ha7.eqs (by rw [List.take_zero,List.flatMap_nil,List.append_nil])⟩ <;> simp (maxSteps:=1000000)(disch:=(first|omega|(simp only [qI,qJ,qK]<;>omega)|exact qL _)) only [go_sem,↓reduceIte,n0,reduceCtorEq,n1,n2,n3,n4,n5,i0,i1,i2,i3,i4,i5,i6,i7,hr1_1,hr1_0,hr1_5,hr1_6,hI1,hN1,hS1]
        all_goals rfl
      · rintro ρ w8 ⟨j2,r8,hj2,hI2,hN2,hS2,hr1_2,hr2_0,hr2_5,hr2_6,hr2_178,hr2_177,hr2_17,hr2_19,ha8⟩
        have hB8 : B ≤ w8.heap.size := Nat.le_trans hB ha8.upd.size
        have hv_8 := ha8.upd.blk_some hv hdv
        have hx1_8 := ha8.upd.blk_some hx1 hnx1
        by_cases hlt2 : j2 < (y1.at 4).l.length
        · obtain ⟨_,b2,o2,x2,ce2,hb2,hok2,hx2,hbl2,hxs2,hxe2,hq2,hRe2⟩ := SlR.get (size := 3) (by decide) hse1_4 hlt2
          subst hb2
          have hcat2 : (y1.at 4).l.take (j2 + 1) = (y1.at 4).l.take j2 ++ [(y1.at 4).l[j2]] := List.take_succ_eq_append_getElem hlt2
          have htl2 := take_flatMap_len (y1.at 4).l (fun x => partS (d + 1) fs_X0 ver true x) (j2 + 1)
          rw [← hXEe1_4,hcat2,List.flatMap_append,List.flatMap_cons,List.flatMap_nil,List.append_nil] at htl2
          have hge2 := hgle1_4.2 _ (List.getElem_mem hlt2)
          generalize (y1.at 4).l[j2] = y2 at *
          have hnx2 := hd b2 hbl2 hok2
          obtain ⟨T2,hTT2⟩ : ∃ T,T = ((y1.at 4).l.take j2).flatMap (fun x => partS (d + 1) fs_X0 ver true x) := ⟨_,rfl⟩
          rw [← hTT2] at ha8 htl2
          have hx2_8 := ha8.upd.blk_some hx2 hnx2
          replace hRe2 : RepS true (d + 1) fs_X0 okM w y2 ce2 := Rep1_part.1 hRe2
          have hfe2 : FitW ver (d + 1) fs_X0 y2 := hge2.2 rfl
          obtain ⟨⟨ge2_0,ge2_1,-⟩,hfue2⟩ := hfe2
          replace ge2_0 : hasS fX0_0 ver = true → FitWF (FitW ver d) ver fX0_0 (y2.at 0) := ge2_0
          have hhe2_0 : hasS fX0_0 ver = true := hasS_t (by show (0 : Int) ≤ ver;omega) (by show (-1 : Int) < 0 ∨ ver ≤ (-1 : Int);omega)
          replace ge2_0 := ge2_0 hhe2_0
          replace ge2_1 : hasS fX0_1 ver = true → FitWF (FitW ver d) ver fX0_1 (y2.at 1) := ge2_1
          have hhe2_1 : hasS fX0_1 ver = true := hasS_t (by show (0 : Int) ≤ ver;omega) (by show (-1 : Int) < 0 ∨ ver ≤ (-1 : Int);omega)
          replace ge2_1 := ge2_1 hhe2_1
          obtain ⟨cse2,qe2,hcse2,hLe2,hTe2⟩ := hRe2.inv
          obtain ⟨ce2_0,ee2_0,rfl,he2_0,ce2_1,ee2_1,rfl,he2_1,rfl⟩ := hLe2
          replace he2_0 : RepF (RepS true d) (szS true d) fX0_0 okM w (y2.at 0) ce2_0 := he2_0
          replace he2_1 : RepF (RepS true d) (szS true d) fX0_1 okM w (y2.at 1) ce2_1 := he2_1
          obtain rfl := (RepF_text rfl (by decide)).1 he2_0
          obtain ⟨pe2_1,rfl,hse2_1⟩ := RepF_listW ge2_1 rfl (by decide) he2_1
          obtain ⟨abe2_1,ace2_1,rfl,_⟩ := SlR.shape hse2_1
          have hgle2_1 := ge2_1.list rfl
          have hlle2_1 := hgle2_1.1
          obtain ⟨qme2,rfl⟩ := hTe2.shape
          subst hcse2
          have hq2_0 : x2.1[o2 + j2 * 3]? = some (strV (y2.at 0).s) := hq2 0 (by decide)
          have hq2_1 : x2.1[o2 + (j2 * 3 + 1)]? = some (.slice abe2_1 (y2.at 1).l.length ace2_1) := hq2 1 (by decide)
          have hq2_2 : x2.1[o2 + (j2 * 3 + 2)]? = some (.map qme2) := hq2 2 (by decide)
          obtain ⟨Xe2_0,hXXe2_0⟩ : ∃ X,X = uvarS ((y2.at 0).s.length + 1) ++ (y2.at 0).s := ⟨_,rfl⟩
          obtain ⟨XLe2_1,hXLe2_1⟩ : ∃ X,X = uvarS ((y2.at 1).l.length + 1) := ⟨_,rfl⟩
          obtain ⟨XEe2_1,hXEe2_1⟩ : ∃ X,X = (y2.at 1).l.flatMap (fun x : Tree => fixedS x.n 4) := ⟨_,rfl⟩
          obtain ⟨XUe2,hXUe2⟩ : ∃ X,X = uvarS y2.u.length := ⟨_,rfl⟩
          obtain ⟨XTe2,hXTe2⟩ : ∃ X,X = y2.u.flatMap oneTag := ⟨_,rfl⟩
          have hPe2 : partS (d + 1) fs_X0 ver true y2 = (Xe2_0 ++ ((XLe2_1 ++ XEe2_1) ++ [])) ++ (XUe2 ++ XTe2) := by rw [hXUe2,hXTe2];exact partS_yes rfl hfue2 (plainL_has (by decide) hhe2_0 ((fieldS_text_t ge2_0 rfl (by decide)).trans hXXe2_0.symm) (plainL_has (by decide) hhe2_1 ((fieldS_list_t (g := (fun x : Tree => fixedS x.n 4)) ge2_1 rfl (by decide) (fun x _ => valueS_num 3 (by decide))).trans (by rw [hXLe2_1,hXEe2_1])) rfl))
          rw [hPe2] at htl2
          simp only [List.length_append,List.length_nil] at htl2
          repeat ((first | refine qA rfl ?_|apply qB|refine qC rfl ?_|apply qD|apply qE|apply qF|apply qG|apply qH);try simp (maxSteps:=1000000)(disch:=(first|omega|(simp only [qI,qJ,qK]<;>omega)|exact qL _)) only [go_sem,↓reduceIte,n0,reduceCtorEq,n1,n2,n3,n4,n5,i0,i1,i2,i3,i4,i5,i6,i7,hv_8,hx1_8,hx2_8,Int.toNat_natCast,Nat.mul_one,hq1_0,hq1_1,hq1_2,hq1_3,hq1_4,hq1_5,hq2_0,hq2_1,hq2_2,hr1_2,hr2_0,hr2_5,hr2_6,hr2_178,hr2_177,hr2_17,hr2_19,hI2,hN2,hS2])
          refine (AppendCompactString_fn _ _ _ ha8.own hB8 (y2.at 0).s (ge2_0.text (.inl rfl)) (by simp only [List.length_append,List.length_nil];omega)).mono ?_
          rintro r9 w9 hc9
          rw [← hXXe2_0] at hc9
          have ha9 := ha8.trans hc9
          have hB9 : B ≤ w9.heap.size := Nat.le_trans hB ha9.upd.size
          have hv_9 := ha9.upd.blk_some hv hdv
          have hx1_9 := ha9.upd.blk_some hx1 hnx1
          have hx2_9 := ha9.upd.blk_some hx2 hnx2
          repeat ((first | refine qA rfl ?_|apply qB|refine qC rfl ?_|apply qD|apply qE|apply qF|apply qG|apply qH);try simp (maxSteps:=1000000)(disch:=(first|omega|(simp only [qI,qJ,qK]<;>omega)|exact qL _)) only [go_sem,↓reduceIte,n0,reduceCtorEq,n1,n2,n3,n4,n5,i0,i1,i2,i3,i4,i5,i6,i7,hv_9,hx1_9,hx2_9,Int.toNat_natCast,Nat.mul_one,hq1_0,hq1_1,hq1_2,hq1_3,hq1_4,hq1_5,hq2_0,hq2_1,hq2_2,hr1_2,hr2_0,hr2_5,hr2_6,hr2_178,hr2_177,hr2_17,hr2_19,hI2,hN2,hS2])
          refine (AppendCompactArrayLen_fn _ _ _ ha9.own hB9 (y2.at 1).l.length hlle2_1 (by simp only [List.length_append,List.length_nil];omega)).mono ?_
          rintro r10 w10 hc10
          rw [← hXLe2_1] at hc10
          have ha10 := ha9.trans hc10
          have hB10 : B ≤ w10.heap.size := Nat.le_trans hB ha10.upd.size
          have hv_10 := ha10.upd.blk_some hv hdv
          have hx1_10 := ha10.upd.blk_some hx1 hnx1
          have hx2_10 := ha10.upd.blk_some hx2 hnx2
          repeat ((first | refine qA rfl ?_|apply qB|refine qC rfl ?_|apply qD|apply qE|apply qF|apply qG|apply qH);try simp (maxSteps:=1000000)(disch:=(first|omega|(simp only [qI,qJ,qK]<;>omega)|exact qL _)) only [go_sem,↓reduceIte,n0,reduceCtorEq,n1,n2,n3,n4,n5,i0,i1,i2,i3,i4,i5,i6,i7,hv_10,hx1_10,hx2_10,Int.toNat_natCast,Nat.mul_one,hq1_0,hq1_1,hq1_2,hq1_3,hq1_4,hq1_5,hq2_0,hq2_1,hq2_2,hr1_2,hr2_0,hr2_5,hr2_6,hr2_178,hr2_177,hr2_17,hr2_19,hI2,hN2,hS2])
          have hadd3 := ha10
          refine W.exitJ 8 (fun ρ w' => ∃ r,ρ 1 = r ∧ ρ 0 = .pointer (some ⟨vb,0,none⟩) ∧ ρ 5 = .int .i16 ver ∧ ρ 6 = .bool true ∧ ρ 178 = .int .i64 j1 ∧ ρ 177 = .int .i64 (t.at 4).l.length ∧ ρ 17 = .slice (some ⟨b1,o1,none⟩) (t.at 4).l.length ac_4 ∧ ρ 19 = .pointer (some ⟨b1,o1 + j1 * 6,none⟩) ∧ ρ 231 = .int .i64 j2 ∧ ρ 230 = .int .i64 (y1.at 4).l.length ∧ ρ 24 = .slice (some ⟨b2,o2,none⟩) (y1.at 4).l.length ace1_4 ∧ ρ 26 = .pointer (some ⟨b2,o2 + j2 * 3,none⟩) ∧ AppR 5 B w v s (([] ++ XL_4 ++ T1 ++ Xe1_0 ++ Xe1_1 ++ Xe1_2 ++ Xe1_3 ++ XLe1_4 ++ T2 ++ Xe2_0 ++ XLe2_1) ++ XEe2_1) r w')
            (W.loop (fun ρ w' => ∃ (j : Nat) (r : Value),j ≤ (y2.at 1).l.length ∧ ρ 263 = .int .i64 j ∧ ρ 262 = .int .i64 (y2.at 1).l.length ∧ ρ 28 = .slice abe2_1 (y2.at 1).l.length ace2_1 ∧ ρ 1 = r ∧ ρ 0 = .pointer (some ⟨vb,0,none⟩) ∧ ρ 5 = .int .i16 ver ∧ ρ 6 = .bool true ∧ ρ 178 = .int .i64 j1 ∧ ρ 177 = .int .i64 (t.at 4).l.length ∧ ρ 17 = .slice (some ⟨b1,o1,none⟩) (t.at 4).l.length ac_4 ∧ ρ 19 = .pointer (some ⟨b1,o1 + j1 * 6,none⟩) ∧ ρ 231 = .int .i64 j2 ∧ ρ 230 = .int .i64 (y1.at 4).l.length ∧ ρ 24 = .slice (some ⟨b2,o2,none⟩) (y1.at 4).l.length ace1_4 ∧ ρ 26 = .pointer (some ⟨b2,o2 + j2 * 3,none⟩) ∧ AppR 5 B w v s (([] ++ XL_4 ++ T1 ++ Xe1_0 ++ Xe1_1 ++ Xe1_2 ++ Xe1_3 ++ XLe1_4 ++ T2 ++ Xe2_0 ++ XLe2_1) ++ ((y2.at 1).l.take j).flatMap (fun x : Tree => fixedS x.n 4)) r w')
              (fun ρ _ => (y2.at 1).l.length - (RowKit.intOf (ρ 263)).toNat) ?_ ?_) ?_
          · refine ⟨0,_,Nat.zero_le _,?_,?_,?_,?_,?_,?_,?_,?_,?_,?_,?_,?_,?_,?_,?_,ha10.eqs (by rw [List.take_zero,List.flatMap_nil,List.append_nil])⟩ <;> simp (maxSteps:=1000000)(disch:=(first|omega|(simp only [qI,qJ,qK]<;>omega)|exact qL _)) only [go_sem,↓reduceIte,n0,reduceCtorEq,n1,n2,n3,n4,n5,i0,i1,i2,i3,i4,i5,i6,i7,hr1_2,hr2_0,hr2_5,hr2_6,hr2_178,hr2_177,hr2_17,hr2_19,hI2,hN2,hS2]
            all_goals rfl
          · rintro ρ w11 ⟨j3,r11,hj3,hI3,hN3,hS3,hr1_3,hr3_0,hr3_5,hr3_6,hr3_178,hr3_177,hr3_17,hr3_19,hr3_231,hr3_230,hr3_24,hr3_26,ha11⟩
            have hB11 : B ≤ w11.heap.size := Nat.le_trans hB ha11.upd.size
            have hv_11 := ha11.upd.blk_some hv hdv
            have hx1_11 := ha11.upd.blk_some hx1 hnx1
            have hx2_11 := ha11.upd.blk_some hx2 hnx2
            by_cases hlt3 : j3 < (y2.at 1).l.length
            · obtain ⟨_,b3,o3,x3,ce3,hb3,hok3,hx3,hbl3,hxs3,hxe3,hq3,hRe3⟩ := SlR.get (size := 1) (by decide) hse2_1 hlt3
              subst hb3
              have hcat3 : (y2.at 1).l.take (j3 + 1) = (y2.at 1).l.take j3 ++ [(y2.at 1).l[j3]] := List.take_succ_eq_append_getElem hlt3
              have htl3 := take_flatMap_len (y2.at 1).l (fun x : Tree => fixedS x.n 4) (j3 + 1)
              rw [← hXEe2_1,hcat3,List.flatMap_append,List.flatMap_cons,List.flatMap_nil,List.append_nil] at htl3
              have hge3 := hgle2_1.2 _ (List.getElem_mem hlt3)
              generalize (y2.at 1).l[j3] = y3 at *
              have hnx3 := hd b3 hbl3 hok3
              obtain ⟨T3,hTT3⟩ : ∃ T,T = ((y2.at 1).l.take j3).flatMap (fun x : Tree => fixedS x.n 4) := ⟨_,rfl⟩
              rw [← hTT3] at ha11 htl3
              have hx3_11 := ha11.upd.blk_some hx3 hnx3
              obtain rfl := (Rep1_num (by decide)).1 hRe3
              have hq3_0 : x3.1[o3 + j3]? = some (.int .i32 (IntKind.i32.wrap y3.n)) := by have := hq3 0 (by decide);rw [Nat.mul_one] at this;exact this
              obtain ⟨Y3,hY3⟩ : ∃ Y,Y = fixedS (y3).n 4 := ⟨_,rfl⟩
              replace htl3 : (T3 ++ Y3).length ≤ XEe2_1.length := by rw [hY3];exact htl3
              simp only [List.length_append] at htl3
              repeat ((first | refine qA rfl ?_|apply qB|refine qC rfl ?_|apply qD|apply qE|apply qF|apply qG|apply qH);try simp (maxSteps:=1000000)(disch:=(first|omega|(simp only [qI,qJ,qK]<;>omega)|exact qL _)) only [go_sem,↓reduceIte,n0,reduceCtorEq,n1,n2,n3,n4,n5,i0,i1,i2,i3,i4,i5,i6,i7,hv_11,hx1_11,hx2_11,hx3_11,Int.toNat_natCast,Nat.mul_one,hq1_0,hq1_1,hq1_2,hq1_3,hq1_4,hq1_5,hq2_0,hq2_1,hq2_2,hq3_0,hr1_3,hr3_0,hr3_5,hr3_6,hr3_178,hr3_177,hr3_17,hr3_19,hr3_231,hr3_230,hr3_24,hr3_26,hI3,hN3,hS3])
              refine (AppendInt32_fn _ _ _ ha11.own hB11 _ (by simp only [List.length_append,List.length_nil];omega)).mono ?_
              rintro r12 w12 hc12
              rw [wrap32,← hY3] at hc12
              have ha12 := ha11.trans hc12
              have hB12 : B ≤ w12.heap.size := Nat.le_trans hB ha12.upd.size
              have hv_12 := ha12.upd.blk_some hv hdv
              have hx1_12 := ha12.upd.blk_some hx1 hnx1
              have hx2_12 := ha12.upd.blk_some hx2 hnx2
              have hx3_12 := ha12.upd.blk_some hx3 hnx3
              repeat ((first | refine qA rfl ?_|apply qB|refine qC rfl ?_|apply qD|apply qE|apply qF|apply qG|apply qH);try simp (maxSteps:=1000000)(disch:=(first|omega|(simp only [qI,qJ,qK]<;>omega)|exact qL _)) only [go_sem,↓reduceIte,n0,reduceCtorEq,n1,n2,n3,n4,n5,i0,i1,i2,i3,i4,i5,i6,i7,hr1_3,hr3_0,hr3_5,hr3_6,hr3_178,hr3_177,hr3_17,hr3_19,hr3_231,hr3_230,hr3_24,hr3_26,hI3,hN3,hS3])
              refine ⟨⟨j3 + 1,_,by omega,rfl,rfl,ha12.eqs ?_⟩,?_⟩
              · rw [hcat3,List.flatMap_append,List.flatMap_cons,List.flatMap_nil,List.append_nil,← hTT3,hY3];simp only [List.append_assoc,List.append_nil,List.nil_append]
              · simp only [RowKit.intOf];omega
            · have hjl3 : j3 = (y2.at 1).l.length := by omega
              subst hjl3
              rw [List.take_length,← hXEe2_1] at ha11
              repeat ((first | refine qA rfl ?_|apply qB|refine qC rfl ?_|apply qD|apply qE|apply qF|apply qG|apply qH);try simp (maxSteps:=1000000)(disch:=(first|omega|(simp only [qI,qJ,qK]<;>omega)|exact qL _)) only [go_sem,↓reduceIte,n0,reduceCtorEq,n1,n2,n3,n4,n5,i0,i1,i2,i3,i4,i5,i6,i7,hI3,hN3])
              exact ⟨_,hr1_3,hr3_0,hr3_5,hr3_6,hr3_178,hr3_177,hr3_17,hr3_19,hr3_231,hr3_230,hr3_24,hr3_26,ha11⟩
          · rintro ρ w13 ⟨r13,hr1_4,hr4_0,hr4_5,hr4_6,hr4_178,hr4_177,hr4_17,hr4_19,hr4_231,hr4_230,hr4_24,hr4_26,ha13⟩
            have hB13 : B ≤ w13.heap.size := Nat.le_trans hB ha13.upd.size
            have hv_13 := ha13.upd.blk_some hv hdv
            have hx1_13 := ha13.upd.blk_some hx1 hnx1
            have hx2_13 := ha13.upd.blk_some hx2 hnx2
            repeat ((first | refine qA rfl ?_|apply qB|refine qC rfl ?_|apply qD|apply qE|apply qF|apply qG|apply qH);try simp (maxSteps:=1000000)(disch:=(first|omega|(simp only [qI,qJ,qK]<;>omega)|exact qL _)) only [go_sem,↓reduceIte,n0,reduceCtorEq,n1,n2,n3,n4,n5,i0,i1,i2,i3,i4,i5,i6,i7,hv_13,hx1_13,hx2_13,Int.toNat_natCast,Nat.mul_one,hq1_0,hq1_1,hq1_2,hq1_3,hq1_4,hq1_5,hq2_0,hq2_1,hq2_2,hr1_4,hr4_0,hr4_5,hr4_6,hr4_178,hr4_177,hr4_17,hr4_19,hr4_231,hr4_230,hr4_24,hr4_26])
            have hTk13 : TagsM (OkS okM w.heap.size) w13 (.map qme2) y2.u := (hTe2.weaken fun b h1 h2 => ⟨h2,h1⟩).keep (ha13.upd.keeps fun b hb hk => hd b hb hk.1)
            refine (TagsLen_fn (ok := OkS okM w.heap.size) w13 hx2_13 (to := o2 + (j2 * 3 + 2)) hq2_2 hTk13).mono ?_
            rintro _ w13' ⟨rfl,rfl⟩
            have hul13 : y2.u.length ≤ 32767 := hfue2.1
            have ew13 : IntKind.u32.wrap (y2.u.length : Int) = y2.u.length := u32_wrap (by omega)
            have ez13 : IntKind.u32.wrap (0 + (y2.u.length : Int)) = y2.u.length := by rw [Int.zero_add,u32_wrap (by omega)]
            simp (maxSteps:=1000000)(disch:=(first|omega|(simp only [qI,qJ,qK]<;>omega)|exact qL _)) only [go_sem,↓reduceIte,n0,reduceCtorEq,n1,n2,n3,n4,n5,i0,i1,i2,i3,i4,i5,i6,i7,hv_13,hx1_13,hx2_13,Int.toNat_natCast,Nat.mul_one,hq1_0,hq1_1,hq1_2,hq1_3,hq1_4,hq1_5,hq2_0,hq2_1,hq2_2,hr1_4,hr4_0,hr4_5,hr4_6,hr4_178,hr4_177,hr4_17,hr4_19,hr4_231,hr4_230,hr4_24,hr4_26,ew13,ez13]
            refine (AppendUvarint_fn _ _ _ ha13.own hB13 y2.u.length (by omega) (by simp only [List.length_append,List.length_nil];omega)).mono ?_
            rintro r14 w14 hc14
            rw [← hXUe2] at hc14
            have ha14 := ha13.trans hc14
            have hB14 : B ≤ w14.heap.size := Nat.le_trans hB ha14.upd.size
            have hv_14 := ha14.upd.blk_some hv hdv
            have hx1_14 := ha14.upd.blk_some hx1 hnx1
            have hx2_14 := ha14.upd.blk_some hx2 hnx2
            repeat ((first | refine qA rfl ?_|apply qB|refine qC rfl ?_|apply qD|apply qE|apply qF|apply qG|apply qH);try simp (maxSteps:=1000000)(disch:=(first|omega|(simp only [qI,qJ,qK]<;>omega)|exact qL _)) only [go_sem,↓reduceIte,n0,reduceCtorEq,n1,n2,n3,n4,n5,i0,i1,i2,i3,i4,i5,i6,i7,hv_14,hx1_14,hx2_14,Int.toNat_natCast,Nat.mul_one,hq1_0,hq1_1,hq1_2,hq1_3,hq1_4,hq1_5,hq2_0,hq2_1,hq2_2,hr1_4,hr4_0,hr4_5,hr4_6,hr4_178,hr4_177,hr4_17,hr4_19,hr4_231,hr4_230,hr4_24,hr4_26])
            have hTk14 : TagsM (OkS okM w.heap.size) w14 (.map qme2) y2.u := (hTe2.weaken fun b h1 h2 => ⟨h2,h1⟩).keep (ha14.upd.keeps fun b hb hk => hd b hb hk.1)
            refine (AppendEach_fn (ok := OkS okM w.heap.size) _ _ _ ha14.own hB14 hx2_14 (to := o2 + (j2 * 3 + 2)) hq2_2 hTk14 (rising_keys hfue2) hfue2.1 (tags_small hfue2 hTk14) (hdK ha14) (ownK ha14 (blk_lt hx2) hnx2) (by simp only [List.length_append,List.length_nil];omega)).mono ?_
            rintro r15 w15 hc15
            rw [← hXTe2] at hc15
            have ha15 := ha14.trans hc15
            have hB15 : B ≤ w15.heap.size := Nat.le_trans hB ha15.upd.size
            have hv_15 := ha15.upd.blk_some hv hdv
            have hx1_15 := ha15.upd.blk_some hx1 hnx1
            have hx2_15 := ha15.upd.blk_some hx2 hnx2
            repeat ((first | refine qA rfl ?_|apply qB|refine qC rfl ?_|apply qD|apply qE|apply qF|apply qG|apply qH);try simp (maxSteps:=1000000)(disch:=(first|omega|(simp only [qI,qJ,qK]<;>omega)|exact qL _)) only [go_sem,↓reduceIte,n0,reduceCtorEq,n1,n2,n3,n4,n5,i0,i1,i2,i3,i4,i5,i6,i7,hr1_4,hr4_0,hr4_5,hr4_6,hr4_178,hr4_177,hr4_17,hr4_19,hr4_231,hr4_230,hr4_24,hr4_26])
            refine ⟨⟨j2 + 1,_,by omega,rfl,rfl,ha15.eqs ?_⟩,?_⟩
            · rw [hcat2,List.flatMap_append,List.flatMap_cons,List.flatMap_nil,List.append_nil,← hTT2,hPe2];simp only [List.append_assoc,List.append_nil,List.nil_append]
            · simp only [RowKit.intOf];omega
        · have hjl2 : j2 = (y1.at 4).l.length := by omega
          subst hjl2
          rw [List.take_length,← hXEe1_4] at ha8
          repeat ((first | refine qA rfl ?_|apply qB|refine qC rfl ?_|apply qD|apply qE|apply qF|apply qG|apply qH);try simp (maxSteps:=1000000)(disch:=(first|omega|(simp only [qI,qJ,qK]<;>omega)|exact qL _)) only [go_sem,↓reduceIte,n0,reduceCtorEq,n1,n2,n3,n4,n5,i0,i1,i2,i3,i4,i5,i6,i7,hI2,hN2])
          exact ⟨_,hr1_2,hr2_0,hr2_5,hr2_6,hr2_178,hr2_177,hr2_17,hr2_19,ha8⟩
      · rintro ρ w16 ⟨r16,hr1_5,hr5_0,hr5_5,hr5_6,hr5_178,hr5_177,hr5_17,hr5_19,ha16⟩
        have hB16 : B ≤ w16.heap.size := Nat.le_trans hB ha16.upd.size
        have hv_16 := ha16.upd.blk_some hv hdv
        have hx1_16 := ha16.upd.blk_some hx1 hnx1
        repeat ((first | refine qA rfl ?_|apply qB|refine qC rfl ?_|apply qD|apply qE|apply qF|apply qG|apply qH);try simp (maxSteps:=1000000)(disch:=(first|omega|(simp only [qI,qJ,qK]<;>omega)|exact qL _)) only [go_sem,↓reduceIte,n0,reduceCtorEq,n1,n2,n3,n4,n5,i0,i1,i2,i3,i4,i5,i6,i7,hv_16,hx1_16,Int.toNat_natCast,Nat.mul_one,hq1_0,hq1_1,hq1_2,hq1_3,hq1_4,hq1_5,hr1_5,hr5_0,hr5_5,hr5_6,hr5_178,hr5_177,hr5_17,hr5_19])
        have hTk16 : TagsM (OkS okM w.heap.size) w16 (.map qme1) y1.u := (hTe1.weaken fun b h1 h2 => ⟨h2,h1⟩).keep (ha16.upd.keeps fun b hb hk => hd b hb hk.1)
        refine (TagsLen_fn (ok := OkS okM w.heap.size) w16 hx1_16 (to := o1 + (j1 * 6 + 5)) hq1_5 hTk16).mono ?_
        rintro _ w16' ⟨rfl,rfl⟩
        have hul16 : y1.u.length ≤ 32767 := hfue1.1
        have ew16 : IntKind.u32.wrap (y1.u.length : Int) = y1.u.length := u32_wrap (by omega)
        have ez16 : IntKind.u32.wrap (0 + (y1.u.length : Int)) = y1.u.length := by rw [Int.zero_add,u32_wrap (by omega)]
        simp (maxSteps:=1000000)(disch:=(first|omega|(simp only [qI,qJ,qK]<;>omega)|exact qL _)) only [go_sem,↓reduceIte,n0,reduceCtorEq,n1,n2,n3,n4,n5,i0,i1,i2,i3,i4,i5,i6,i7,hv_16,hx1_16,Int.toNat_natCast,Nat.mul_one,hq1_0,hq1_1,hq1_2,hq1_3,hq1_4,hq1_5,hr1_5,hr5_0,hr5_5,hr5_6,hr5_178,hr5_177,hr5_17,hr5_19,ew16,ez16]
        refine (AppendUvarint_fn _ _ _ ha16.own hB16 y1.u.length (by omega) (by simp only [List.length_append,List.length_nil];omega)).mono ?_
        rintro r17 w17 hc17
        rw [← hXUe1] at hc17
        have ha17 := ha16.trans hc17
        have hB17 : B ≤ w17.heap.size := Nat.le_trans hB ha17.upd.size
        have hv_17 := ha17.upd.blk_some hv hdv
        have hx1_17 := ha17.upd.blk_some hx1 hnx1
        repeat ((first | refine qA rfl ?_|apply qB|refine qC rfl ?_|apply qD|apply qE|apply qF|apply qG|apply qH);try simp (maxSteps:=1000000)(disch:=(first|omega|(simp only [qI,qJ,qK]<;>omega)|exact qL _)) only [go_sem,↓reduceIte,n0,reduceCtorEq,n1,n2,n3,n4,n5,i0,i1,i2,i3,i4,i5,i6,i7,hv_17,hx1_17,Int.toNat_natCast,Nat.mul_one,hq1_0,hq1_1,hq1_2,hq1_3,hq1_4,hq1_5,hr1_5,hr5_0,hr5_5,hr5_6,hr5_178,hr5_177,hr5_17,hr5_19])
        have hTk17 : TagsM (OkS okM w.heap.size) w17 (.map qme1) y1.u := (hTe1.weaken fun b h1 h2 => ⟨h2,h1⟩).keep (ha17.upd.keeps fun b hb hk => hd b hb hk.1)
        refine (AppendEach_fn (ok := OkS okM w.heap.size) _ _ _ ha17.own hB17 hx1_17 (to := o1 + (j1 * 6 + 5)) hq1_5 hTk17 (rising_keys hfue1) hfue1.1 (tags_small hfue1 hTk17) (hdK ha17) (ownK ha17 (blk_lt hx1) hnx1) (by simp only [List.length_append,List.length_nil];omega)).mono ?_
        rintro r18 w18 hc18
        rw [← hXTe1] at hc18
        have ha18 := ha17.trans hc18
        have hB18 : B ≤ w18.heap.size := Nat.le_trans hB ha18.upd.size
        have hv_18 := ha18.upd.blk_some hv hdv
        have hx1_18 := ha18.upd.blk_some hx1 hnx1
        repeat ((first | refine qA rfl ?_|apply qB|refine qC rfl ?_|apply qD|apply qE|apply qF|apply qG|apply qH);try simp (maxSteps:=1000000)(disch:=(first|omega|(simp only [qI,qJ,qK]<;>omega)|exact qL _)) only [go_sem,↓reduceIte,n0,reduceCtorEq,n1,n2,n3,n4,n5,i0,i1,i2,i3,i4,i5,i6,i7,hr1_5,hr5_0,hr5_5,hr5_6,hr5_178,hr5_177,hr5_17,hr5_19])
        refine ⟨⟨j1 + 1,_,by omega,rfl,rfl,ha18.eqs ?_⟩,?_⟩
        · rw [hcat1,List.flatMap_append,List.flatMap_cons,List.flatMap_nil,List.append_nil,← hTT1,hPe1];simp only [List.append_assoc,List.append_nil,List.nil_append]
        · simp only [RowKit.intOf];omega
    · have hjl1 : j1 = (t.at 4).l.length := by omega
      subst hjl1
      rw [List.take_length,← hXE_4] at ha2
      repeat ((first | refine qA rfl ?_|apply qB|refine qC rfl ?_|apply qD|apply qE|apply qF|apply qG|apply qH);try simp (maxSteps:=1000000)(disch:=(first|omega|(simp only [qI,qJ,qK]<;>omega)|exact qL _)) only [go_sem,↓reduceIte,n0,reduceCtorEq,n1,n2,n3,n4,n5,i0,i1,i2,i3,i4,i5,i6,i7,hI1,hN1])
      exact ⟨_,hr1_1,hr1_0,hr1_5,hr1_6,ha2⟩
  · rintro ρ w19 ⟨r19,hr1_6,hr6_0,hr6_5,hr6_6,ha19⟩
    have hB19 : B ≤ w19.heap.size := Nat.le_trans hB ha19.upd.size
    have hv_19 := ha19.upd.blk_some hv hdv
    repeat ((first | refine qA rfl ?_|apply qB|refine qC rfl ?_|apply qD|apply qE|apply qF|apply qG|apply qH);try simp (maxSteps:=1000000)(disch:=(first|omega|(simp only [qI,qJ,qK]<;>omega)|exact qL _)) only [go_sem,↓reduceIte,n0,reduceCtorEq,n1,n2,n3,n4,n5,i0,i1,i2,i3,i4,i5,i6,i7,hv_19,hr1_6,hr6_0,hr6_5,hr6_6])
    have hTk19 : TagsM (OkS okM w.heap.size) w19 (.map qm) t.u := (hT.weaken fun b h1 h2 => ⟨h2,h1⟩).keep (ha19.upd.keeps fun b hb hk => hd b hb hk.1)
    refine (TagsLen_fn (ok := OkS okM w.heap.size) w19 hv_19 (to := 6) (show (#[.int .i16 ver,strV (t.at 0).s,.int .i64 (t.at 1).n,.int .i16 (IntKind.i16.wrap (t.at 2).n),p_3,.slice ab_4 (t.at 4).l.length ac_4,.map qm] : Array Value)[6]? = some (.map qm) from rfl) hTk19).mono ?_
    rintro _ w19' ⟨rfl,rfl⟩
    have hul19 : t.u.length ≤ 32767 := hfu.1
    have ew19 : IntKind.u32.wrap (t.u.length : Int) = t.u.length := u32_wrap (by omega)
    have ez19 : IntKind.u32.wrap (0 + (t.u.length : Int)) = t.u.length := by rw [Int.zero_add,u32_wrap (by omega)]
    simp (maxSteps:=1000000)(disch:=(first|omega|(simp only [qI,qJ,qK]<;>omega)|exact qL _)) only [go_sem,↓reduceIte,n0,reduceCtorEq,n1,n2,n3,n4,n5,i0,i1,i2,i3,i4,i5,i6,i7,hv_19,hr1_6,hr6_0,hr6_5,hr6_6,ew19,ez19]
    refine (AppendUvarint_fn _ _ _ ha19.own hB19 t.u.length (by omega) (by simp only [List.length_append,List.length_nil];omega)).mono ?_
    rintro r20 w20 hc20
    rw [← hXU] at hc20
    have ha20 := ha19.trans hc20
    have hB20 : B ≤ w20.heap.size := Nat.le_trans hB ha20.upd.size
    have hv_20 := ha20.upd.blk_some hv hdv
    repeat ((first | refine qA rfl ?_|apply qB|refine qC rfl ?_|apply qD|apply qE|apply qF|apply qG|apply qH);try simp (maxSteps:=1000000)(disch:=(first|omega|(simp only [qI,qJ,qK]<;>omega)|exact qL _)) only [go_sem,↓reduceIte,n0,reduceCtorEq,n1,n2,n3,n4,n5,i0,i1,i2,i3,i4,i5,i6,i7,hv_20,hr1_6,hr6_0,hr6_5,hr6_6])
    have hTk20 : TagsM (OkS okM w.heap.size) w20 (.map qm) t.u := (hT.weaken fun b h1 h2 => ⟨h2,h1⟩).keep (ha20.upd.keeps fun b hb hk => hd b hb hk.1)
    refine (AppendEach_fn (ok := OkS okM w.heap.size) _ _ _ ha20.own hB20 hv_20 (to := 6) (show (#[.int .i16 ver,strV (t.at 0).s,.int .i64 (t.at 1).n,.int .i16 (IntKind.i16.wrap (t.at 2).n),p_3,.slice ab_4 (t.at 4).l.length ac_4,.map qm] : Array Value)[6]? = some (.map qm) from rfl) hTk20 (rising_keys hfu) hfu.1 (tags_small hfu hTk20) (hdK ha20) (ownK ha20 (blk_lt hv) hdv) (by simp only [List.length_append,List.length_nil];omega)).mono ?_
    rintro r21 w21 hc21
    rw [← hXT] at hc21
    have ha21 := ha20.trans hc21
    have hB21 : B ≤ w21.heap.size := Nat.le_trans hB ha21.upd.size
    have hv_21 := ha21.upd.blk_some hv hdv
    repeat ((first | refine qA rfl ?_|apply qB|refine qC rfl ?_|apply qD|apply qE|apply qF|apply qG|apply qH);try simp (maxSteps:=1000000)(disch:=(first|omega|(simp only [qI,qJ,qK]<;>omega)|exact qL _)) only [go_sem,↓reduceIte,n0,reduceCtorEq,n1,n2,n3,n4,n5,i0,i1,i2,i3,i4,i5,i6,i7,hv_21,hr1_6,hr6_0,hr6_5,hr6_6])
    refine ha21.eqs ?_
    rw [hP];simp only [List.append_assoc,List.append_nil,List.nil_append]
end Ms

