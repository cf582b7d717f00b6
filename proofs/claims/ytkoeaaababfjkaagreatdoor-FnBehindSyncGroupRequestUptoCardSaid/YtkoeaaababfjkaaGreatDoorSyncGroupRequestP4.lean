/- A part of the proof: see the last text. -/
import Derived.Test.YtkoeaaababfjkaaGreatDoorC02
import Derived.Test.YtkoeaaababfjkaaGreatDoorC06
import Derived.Test.YtkoeaaababfjkaaGreatDoorC07
import Derived.Test.YtkoeaaababfjkaaGreatDoorC10
import Derived.Test.YtkoeaaababfjkaaGreatDoorSyncGroupRequestP0
import Derived.Test.YtkoeaaababfjkaaGreatDoorSyncGroupRequestP3
set_option linter.unusedSimpArgs false
set_option linter.unusedVariables false
namespace Ms
open Go.World renaming size_alloc → qI
open Ms renaming size_wr → qJ,size_drew → qK,not_noB → qL
open W renaming seqR → qA,seq → qB,regR → qC,condK → qD,block → qE,skip → qF,ret → qG,exit → qH
open Nat renaming reduceEqDiff → n0,reduceAdd → n1,reduceMul → n2,reduceSub → n3,reduceLT → n4,reduceLeDiff → n5
open Int renaming reduceEq → i0,reduceLT → i1,reduceLE → i2,reduceNeg → i3,reduceAdd → i4,reduceSub → i5,reduceMul → i6,reduceToNat → i7
set_option maxRecDepth 8000
open Go Go.Proofs Go.Shelf
attribute [local congr] W_congr WPsq_congr WPp_congr optK_congr addrK_congr intK_congr boolK_congr sliceK_congr tupleK_congr funcK_congr Fn_congr rawK_congr takeK_congr stepK_congr convK_congr aggK_congr

set_option maxHeartbeats 4000000 in
theorem appSyncGroupRequest_2 {d B : Nat} {okM : Blocks} {ver : Int} (hlo : 4 ≤ ver) (hhi : ver ≤ 4) (t : Tree) (cells : List Value) (v : Value) (s : List UInt8) (w : World) {vb : Nat} (ho : OwnBy 5 B w v s) (hB : B ≤ w.heap.size) (hvb : blk w vb = some ((.int .i16 ver :: cells).toArray,123,(0,0)))
    (hR : RepS true (d + 2) fs_SyncGroupRequest okM w t cells) (hfit : FitW ver (d + 2) fs_SyncGroupRequest t) (hd : ∀ b,b < w.heap.size → okM b → ¬ ownB v b) (hdv : ¬ ownB v vb) (hlen : s.length + (partS (d + 2) fs_SyncGroupRequest ver true t).length ≤ 2 ^ 41) :
    Fn Tryz.prog 70 #[.pointer (some ⟨vb,0,none⟩),v] w fun r w' => AppR 5 B w v s (partS (d + 2) fs_SyncGroupRequest ver true t) r w' := by
  obtain ⟨⟨g_0,g_1,g_2,g_3,g_4,g_5,g_6,-⟩,hfu⟩ := hfit
  replace g_0 : hasS fSyncGroupRequest_0 ver = true → FitWF (FitW ver (d + 1)) ver fSyncGroupRequest_0 (t.at 0) := g_0
  have hh_0 : hasS fSyncGroupRequest_0 ver = true := hasS_t (by show (0 : Int) ≤ ver;omega) (by show (-1 : Int) < 0 ∨ ver ≤ (-1 : Int);omega)
  replace g_0 := g_0 hh_0
  replace g_1 : hasS fSyncGroupRequest_1 ver = true → FitWF (FitW ver (d + 1)) ver fSyncGroupRequest_1 (t.at 1) := g_1
  have hh_1 : hasS fSyncGroupRequest_1 ver = true := hasS_t (by show (0 : Int) ≤ ver;omega) (by show (-1 : Int) < 0 ∨ ver ≤ (-1 : Int);omega)
  replace g_1 := g_1 hh_1
  replace g_2 : hasS fSyncGroupRequest_2 ver = true → FitWF (FitW ver (d + 1)) ver fSyncGroupRequest_2 (t.at 2) := g_2
  have hh_2 : hasS fSyncGroupRequest_2 ver = true := hasS_t (by show (0 : Int) ≤ ver;omega) (by show (-1 : Int) < 0 ∨ ver ≤ (-1 : Int);omega)
  replace g_2 := g_2 hh_2
  replace g_3 : hasS fSyncGroupRequest_3 ver = true → FitWF (FitW ver (d + 1)) ver fSyncGroupRequest_3 (t.at 3) := g_3
  have hh_3 : hasS fSyncGroupRequest_3 ver = true := hasS_t (by show (3 : Int) ≤ ver;omega) (by show (-1 : Int) < 0 ∨ ver ≤ (-1 : Int);omega)
  replace g_3 := g_3 hh_3
  replace g_4 : hasS fSyncGroupRequest_4 ver = true → FitWF (FitW ver (d + 1)) ver fSyncGroupRequest_4 (t.at 4) := g_4
  have hh_4 : hasS fSyncGroupRequest_4 ver = false := hasS_f (by show ver < 5 ∨ (0 ≤ (-1 : Int) ∧ (-1 : Int) < ver);omega)
  clear g_4
  replace g_5 : hasS fSyncGroupRequest_5 ver = true → FitWF (FitW ver (d + 1)) ver fSyncGroupRequest_5 (t.at 5) := g_5
  have hh_5 : hasS fSyncGroupRequest_5 ver = false := hasS_f (by show ver < 5 ∨ (0 ≤ (-1 : Int) ∧ (-1 : Int) < ver);omega)
  clear g_5
  replace g_6 : hasS fSyncGroupRequest_6 ver = true → FitWF (FitW ver (d + 1)) ver fSyncGroupRequest_6 (t.at 6) := g_6
  have hh_6 : hasS fSyncGroupRequest_6 ver = true := hasS_t (by show (0 : Int) ≤ ver;omega) (by show (-1 : Int) < 0 ∨ ver ≤ (-1 : Int);omega)
  replace g_6 := g_6 hh_6
  obtain ⟨cs,q,hcs,hL,hT⟩ := hR.inv
  obtain ⟨c_0,e_0,rfl,h_0,c_1,e_1,rfl,h_1,c_2,e_2,rfl,h_2,c_3,e_3,rfl,h_3,c_4,e_4,rfl,h_4,c_5,e_5,rfl,h_5,c_6,e_6,rfl,h_6,rfl⟩ := hL
  replace h_0 : RepF (RepS true (d + 1)) (szS true (d + 1)) fSyncGroupRequest_0 okM w (t.at 0) c_0 := h_0
  replace h_1 : RepF (RepS true (d + 1)) (szS true (d + 1)) fSyncGroupRequest_1 okM w (t.at 1) c_1 := h_1
  replace h_2 : RepF (RepS true (d + 1)) (szS true (d + 1)) fSyncGroupRequest_2 okM w (t.at 2) c_2 := h_2
  replace h_3 : RepF (RepS true (d + 1)) (szS true (d + 1)) fSyncGroupRequest_3 okM w (t.at 3) c_3 := h_3
  replace h_4 : RepF (RepS true (d + 1)) (szS true (d + 1)) fSyncGroupRequest_4 okM w (t.at 4) c_4 := h_4
  replace h_5 : RepF (RepS true (d + 1)) (szS true (d + 1)) fSyncGroupRequest_5 okM w (t.at 5) c_5 := h_5
  replace h_6 : RepF (RepS true (d + 1)) (szS true (d + 1)) fSyncGroupRequest_6 okM w (t.at 6) c_6 := h_6
  obtain rfl := (RepF_text rfl (by decide)).1 h_0
  obtain rfl := (RepF_num (by decide)).1 h_1
  obtain rfl := (RepF_text rfl (by decide)).1 h_2
  obtain ⟨p_3,rfl,hp_3⟩ := (RepF_ptr rfl (by decide)).1 h_3
  obtain ⟨p_4,rfl,hp_4⟩ := (RepF_ptr rfl (by decide)).1 h_4
  obtain ⟨p_5,rfl,hp_5⟩ := (RepF_ptr rfl (by decide)).1 h_5
  obtain ⟨p_6,rfl,hs_6⟩ := RepF_listW g_6 rfl (by decide) h_6
  obtain ⟨ab_6,ac_6,rfl,_⟩ := SlR.shape hs_6
  have hll_6 := (g_6.list rfl).1
  obtain ⟨qm,rfl⟩ := hT.shape
  have hv : blk w vb = some (#[.int .i16 ver,strV (t.at 0).s,.int .i32 (IntKind.i32.wrap (t.at 1).n),strV (t.at 2).s,p_3,p_4,p_5,.slice ab_6 (t.at 6).l.length ac_6,.map qm],123,(0,0)) := by rw [hvb,hcs];rfl
  clear hvb hcs
  obtain ⟨X_0,hXX_0⟩ : ∃ X,X = uvarS ((t.at 0).s.length + 1) ++ (t.at 0).s := ⟨_,rfl⟩
  obtain ⟨X_1,hXX_1⟩ : ∃ X,X = fixedS (t.at 1).n 4 := ⟨_,rfl⟩
  obtain ⟨X_2,hXX_2⟩ : ∃ X,X = uvarS ((t.at 2).s.length + 1) ++ (t.at 2).s := ⟨_,rfl⟩
  obtain ⟨X_3,hXX_3⟩ : ∃ X,X = if (t.at 3).null = true then [0] else uvarS ((t.at 3).s.length + 1) ++ (t.at 3).s := ⟨_,rfl⟩
  obtain ⟨XL_6,hXL_6⟩ : ∃ X,X = uvarS ((t.at 6).l.length + 1) := ⟨_,rfl⟩
  obtain ⟨XE_6,hXE_6⟩ : ∃ X,X = (t.at 6).l.flatMap (fun x => partS (d + 1) fs_X0 ver true x) := ⟨_,rfl⟩
  obtain ⟨XU,hXU⟩ : ∃ X,X = uvarS t.u.length := ⟨_,rfl⟩
  obtain ⟨XT,hXT⟩ : ∃ X,X = t.u.flatMap oneTag := ⟨_,rfl⟩
  have hP : partS (d + 2) fs_SyncGroupRequest ver true t = (X_0 ++ (X_1 ++ (X_2 ++ (X_3 ++ ((XL_6 ++ XE_6) ++ []))))) ++ (XU ++ XT) := by rw [hXU,hXT];exact partS_yes rfl hfu (plainL_has (by decide) hh_0 ((fieldS_text_t g_0 rfl (by decide)).trans hXX_0.symm) (plainL_has (by decide) hh_1 ((fieldS_num 3 rfl (by decide)).trans hXX_1.symm) (plainL_has (by decide) hh_2 ((fieldS_text_t g_2 rfl (by decide)).trans hXX_2.symm) (plainL_has (by decide) hh_3 ((fieldS_ptr_t g_3 rfl (by decide)).trans hXX_3.symm) (plainL_not hh_4 (plainL_not hh_5 (plainL_has (by decide) hh_6 ((fieldS_list_t (g := (fun x => partS (d + 1) fs_X0 ver true x)) g_6 rfl (by decide) (fun x _ => valueS_part)).trans (by rw [hXL_6,hXE_6])) rfl)))))))
  rw [hP] at hlen
  simp only [List.length_append,List.length_nil] at hlen
  have hdK : ∀ {r : Value} {w' : World} {add : List UInt8},AppR 5 B w v s add r w' → ∀ b,b < w'.heap.size → OkS okM w.heap.size b → ¬ ownB r b := fun h b _ hk ho => (h.frame b ho).elim (hd b hk.2 hk.1) (fun h => by have := hk.2;omega)
  have ownK : ∀ {r : Value} {w' : World} {add : List UInt8} {b : Nat},AppR 5 B w v s add r w' → b < w.heap.size → ¬ ownB v b → ¬ ownB r b := fun h hb hn ho => (h.frame _ ho).elim hn (fun h => by omega)
  have ha0 : AppR 5 B w v s [] v w := AppR.refl ho
  obtain ⟨w0,hw0⟩ : ∃ w0,w0 = w := ⟨_,rfl⟩
  have hB0 := hB
  have hv_0 := hv
  refine fn_of_W Tryz.func70 rfl Tryz.results70 Tryz.ntmps70 rfl ?_
  repeat ((first | refine qA rfl ?_|refine qB ?_|refine qC rfl ?_|refine qD ?_|refine qE ?_|refine qF ?_|refine qG ?_|refine qH ?_);try simp (maxSteps:=1000000)(disch:=(first|omega|(simp only [qI,qJ,qK]<;>omega)|exact qL _)) only [go_sem,↓reduceIte,n0,reduceCtorEq,n1,n2,n3,n4,n5,i0,i1,i2,i3,i4,i5,i6,i7,hv_0])
  refine (AppendCompactString_fn _ _ _ ha0.own hB0 (t.at 0).s (g_0.text (.inl rfl)) (by simp only [List.length_append,List.length_nil];omega)).mono ?_
  rintro r1 w1 hc1
  rw [← hXX_0] at hc1
  have ha1 := ha0.trans hc1
  have hB1 : B ≤ w1.heap.size := Nat.le_trans hB ha1.upd.size
  have hv_1 := ha1.upd.blk_some hv hdv
  repeat ((first | refine qA rfl ?_|refine qB ?_|refine qC rfl ?_|refine qD ?_|refine qE ?_|refine qF ?_|refine qG ?_|refine qH ?_);try simp (maxSteps:=1000000)(disch:=(first|omega|(simp only [qI,qJ,qK]<;>omega)|exact qL _)) only [go_sem,↓reduceIte,n0,reduceCtorEq,n1,n2,n3,n4,n5,i0,i1,i2,i3,i4,i5,i6,i7,hv_1])
  refine (AppendInt32_fn _ _ _ ha1.own hB1 _ (by simp only [List.length_append,List.length_nil];omega)).mono ?_
  rintro r2 w2 hc2
  rw [wrap32,← hXX_1] at hc2
  have ha2 := ha1.trans hc2
  have hB2 : B ≤ w2.heap.size := Nat.le_trans hB ha2.upd.size
  have hv_2 := ha2.upd.blk_some hv hdv
  repeat ((first | refine qA rfl ?_|refine qB ?_|refine qC rfl ?_|refine qD ?_|refine qE ?_|refine qF ?_|refine qG ?_|refine qH ?_);try simp (maxSteps:=1000000)(disch:=(first|omega|(simp only [qI,qJ,qK]<;>omega)|exact qL _)) only [go_sem,↓reduceIte,n0,reduceCtorEq,n1,n2,n3,n4,n5,i0,i1,i2,i3,i4,i5,i6,i7,hv_2])
  refine (AppendCompactString_fn _ _ _ ha2.own hB2 (t.at 2).s (g_2.text (.inl rfl)) (by simp only [List.length_append,List.length_nil];omega)).mono ?_
  rintro r3 w3 hc3
  rw [← hXX_2] at hc3
  have ha3 := ha2.trans hc3
  have hB3 : B ≤ w3.heap.size := Nat.le_trans hB ha3.upd.size
  have hv_3 := ha3.upd.blk_some hv hdv
  repeat ((first | refine qA rfl ?_|refine qB ?_|refine qC rfl ?_|refine qD ?_|refine qE ?_|refine qF ?_|refine qG ?_|refine qH ?_);try simp (maxSteps:=1000000)(disch:=(first|omega|(simp only [qI,qJ,qK]<;>omega)|exact qL _)) only [go_sem,↓reduceIte,n0,reduceCtorEq,n1,n2,n3,n4,n5,i0,i1,i2,i3,i4,i5,i6,i7,hv_3])
  refine (AppendCompactNullableString_fn (ok := okM) _ _ _ ha3.own hB3 _ (t.at 3).null (t.at 3).s (hp_3.keep (ha3.upd.keeps hd)) (g_3.text (.inl rfl)) (by simp only [List.length_append,List.length_nil];omega)).mono ?_
  rintro r4 w4 hc4
  rw [← hXX_3] at hc4
  have ha4 := ha3.trans hc4
  have hB4 : B ≤ w4.heap.size := Nat.le_trans hB ha4.upd.size
  have hv_4 := ha4.upd.blk_some hv hdv
  repeat ((first | refine qA rfl ?_|refine qB ?_|refine qC rfl ?_|refine qD ?_|refine qE ?_|refine qF ?_|refine qG ?_|refine qH ?_);try simp (maxSteps:=1000000)(disch:=(first|omega|(simp only [qI,qJ,qK]<;>omega)|exact qL _)) only [go_sem,↓reduceIte,n0,reduceCtorEq,n1,n2,n3,n4,n5,i0,i1,i2,i3,i4,i5,i6,i7,hv_4])
  refine (AppendCompactArrayLen_fn _ _ _ ha4.own hB4 (t.at 6).l.length hll_6 (by simp only [List.length_append,List.length_nil];omega)).mono ?_
  rintro r5 w5 hc5
  rw [← hXL_6] at hc5
  have ha5 := ha4.trans hc5
  have hB5 : B ≤ w5.heap.size := Nat.le_trans hB ha5.upd.size
  have hv_5 := ha5.upd.blk_some hv hdv
  repeat ((first | refine qA rfl ?_|refine qB ?_|refine qC rfl ?_|refine qD ?_|refine qE ?_|refine qF ?_|refine qG ?_|refine qH ?_);try simp (maxSteps:=1000000)(disch:=(first|omega|(simp only [qI,qJ,qK]<;>omega)|exact qL _)) only [go_sem,↓reduceIte,n0,reduceCtorEq,n1,n2,n3,n4,n5,i0,i1,i2,i3,i4,i5,i6,i7,hv_5])
  have hadd1 := ha5
  refine W.exitJ 0 (fun ρ w' => ∃ r,ρ 1 = r ∧ ρ 0 = .pointer (some ⟨vb,0,none⟩) ∧ ρ 5 = .int .i16 ver ∧ ρ 6 = .bool true ∧ AppR 5 B w v s (([] ++ X_0 ++ X_1 ++ X_2 ++ X_3 ++ XL_6) ++ XE_6) r w')
    (W.loop (fun ρ w' => ∃ (j : Nat) (r : Value),j ≤ (t.at 6).l.length ∧ ρ 109 = .int .i64 j ∧ ρ 108 = .int .i64 (t.at 6).l.length ∧ ρ 13 = .slice ab_6 (t.at 6).l.length ac_6 ∧ ρ 1 = r ∧ ρ 0 = .pointer (some ⟨vb,0,none⟩) ∧ ρ 5 = .int .i16 ver ∧ ρ 6 = .bool true ∧ AppR 5 B w v s (([] ++ X_0 ++ X_1 ++ X_2 ++ X_3 ++ XL_6) ++ ((t.at 6).l.take j).flatMap (fun x => partS (d + 1) fs_X0 ver true x)) r w')
      (fun ρ _ => (t.at 6).l.length - (RowKit.intOf (ρ 109)).toNat) ?_ ?_) ?_
  · refine ⟨0,_,Nat.zero_le _,?_,?_,?_,?_,?_,?_,?_,ha5.eqs (by rw [List.take_zero,List.flatMap_nil,List.append_nil])⟩ <;> simp (maxSteps:=1000000)(disch:=(first|omega|(simp only [qI,qJ,qK]<;>omega)|exact qL _)) only [go_sem,↓reduceIte,n0,reduceCtorEq,n1,n2,n3,n4,n5,i0,i1,i2,i3,i4,i5,i6,i7]
    all_goals rfl
  · rintro ρ w6 ⟨j1,r6,hj1,hI1,hN1,hS1,hr1_1,hr1_0,hr1_5,hr1_6,ha6⟩
    have hB6 : B ≤ w6.heap.size := Nat.le_trans hB ha6.upd.size
    have hv_6 := ha6.upd.blk_some hv hdv
    by_cases hlt1 : j1 < (t.at 6).l.length
    · obtain ⟨_,b1,o1,x1,ce1,hb1,hok1,hx1,hbl1,hxs1,hxe1,hq1,hRe1⟩ := SlR.get (size := 3) (by decide) hs_6 hlt1
      subst hb1
      have hcat1 : (t.at 6).l.take (j1 + 1) = (t.at 6).l.take j1 ++ [(t.at 6).l[j1]] := List.take_succ_eq_append_getElem hlt1
      have htl1 := take_flatMap_len (t.at 6).l (fun x => partS (d + 1) fs_X0 ver true x) (j1 + 1)
      rw [← hXE_6,hcat1,List.flatMap_append,List.flatMap_cons,List.flatMap_nil,List.append_nil] at htl1
      have hge1 := (g_6.list rfl).2 _ (List.getElem_mem hlt1)
      generalize (t.at 6).l[j1] = y1 at *
      have hnx1 := hd b1 hbl1 hok1
      obtain ⟨T1,hTT1⟩ : ∃ T,T = ((t.at 6).l.take j1).flatMap (fun x => partS (d + 1) fs_X0 ver true x) := ⟨_,rfl⟩
      rw [← hTT1] at ha6 htl1
      have hx1_6 := ha6.upd.blk_some hx1 hnx1
      replace hRe1 : RepS true (d + 1) fs_X0 okM w y1 ce1 := Rep1_part.1 hRe1
      have hfe1 : FitW ver (d + 1) fs_X0 y1 := hge1.2 rfl
      obtain ⟨⟨ge1_0,ge1_1,-⟩,hfue1⟩ := hfe1
      replace ge1_0 : hasS fX0_0 ver = true → FitWF (FitW ver d) ver fX0_0 (y1.at 0) := ge1_0
      have hhe1_0 : hasS fX0_0 ver = true := hasS_t (by show (0 : Int) ≤ ver;omega) (by show (-1 : Int) < 0 ∨ ver ≤ (-1 : Int);omega)
      replace ge1_0 := ge1_0 hhe1_0
      replace ge1_1 : hasS fX0_1 ver = true → FitWF (FitW ver d) ver fX0_1 (y1.at 1) := ge1_1
      have hhe1_1 : hasS fX0_1 ver = true := hasS_t (by show (0 : Int) ≤ ver;omega) (by show (-1 : Int) < 0 ∨ ver ≤ (-1 : Int);omega)
      replace ge1_1 := ge1_1 hhe1_1
      obtain ⟨cse1,qe1,hcse1,hLe1,hTe1⟩ := hRe1.inv
      obtain ⟨ce1_0,ee1_0,rfl,he1_0,ce1_1,ee1_1,rfl,he1_1,rfl⟩ := hLe1
      replace he1_0 : RepF (RepS true d) (szS true d) fX0_0 okM w (y1.at 0) ce1_0 := he1_0
      replace he1_1 : RepF (RepS true d) (szS true d) fX0_1 okM w (y1.at 1) ce1_1 := he1_1
      obtain rfl := (RepF_text rfl (by decide)).1 he1_0
      obtain ⟨pe1_1,rfl,hpe1_1⟩ := RepF_bytesW ge1_1 rfl (by decide) he1_1
      obtain ⟨qme1,rfl⟩ := hTe1.shape
      subst hcse1
      have hq1_0 : x1.1[o1 + j1 * 3]? = some (strV (y1.at 0).s) := hq1 0 (by decide)
      have hq1_1 : x1.1[o1 + (j1 * 3 + 1)]? = some (pe1_1) := hq1 1 (by decide)
      have hq1_2 : x1.1[o1 + (j1 * 3 + 2)]? = some (.map qme1) := hq1 2 (by decide)
      obtain ⟨Xe1_0,hXXe1_0⟩ : ∃ X,X = uvarS ((y1.at 0).s.length + 1) ++ (y1.at 0).s := ⟨_,rfl⟩
      obtain ⟨Xe1_1,hXXe1_1⟩ : ∃ X,X = uvarS ((y1.at 1).s.length + 1) ++ (y1.at 1).s := ⟨_,rfl⟩
      obtain ⟨XUe1,hXUe1⟩ : ∃ X,X = uvarS y1.u.length := ⟨_,rfl⟩
      obtain ⟨XTe1,hXTe1⟩ : ∃ X,X = y1.u.flatMap oneTag := ⟨_,rfl⟩
      have hPe1 : partS (d + 1) fs_X0 ver true y1 = (Xe1_0 ++ (Xe1_1 ++ [])) ++ (XUe1 ++ XTe1) := by rw [hXUe1,hXTe1];exact partS_yes rfl hfue1 (plainL_has (by decide) hhe1_0 ((fieldS_text_t ge1_0 rfl (by decide)).trans hXXe1_0.symm) (plainL_has (by decide) hhe1_1 ((fieldS_bytes_t ge1_1 rfl (by decide)).trans hXXe1_1.symm) rfl))
      rw [hPe1] at htl1
      simp only [List.length_append,List.length_nil] at htl1
      repeat ((first | refine qA rfl ?_|refine qB ?_|refine qC rfl ?_|refine qD ?_|refine qE ?_|refine qF ?_|refine qG ?_|refine qH ?_);try simp (maxSteps:=1000000)(disch:=(first|omega|(simp only [qI,qJ,qK]<;>omega)|exact qL _)) only [go_sem,↓reduceIte,n0,reduceCtorEq,n1,n2,n3,n4,n5,i0,i1,i2,i3,i4,i5,i6,i7,hv_6,hx1_6,Int.toNat_natCast,Nat.mul_one,hq1_0,hq1_1,hq1_2,hr1_1,hr1_0,hr1_5,hr1_6,hI1,hN1,hS1])
      refine (AppendCompactString_fn _ _ _ ha6.own hB6 (y1.at 0).s (ge1_0.text (.inl rfl)) (by simp only [List.length_append,List.length_nil];omega)).mono ?_
      rintro r7 w7 hc7
      rw [← hXXe1_0] at hc7
      have ha7 := ha6.trans hc7
      have hB7 : B ≤ w7.heap.size := Nat.le_trans hB ha7.upd.size
      have hv_7 := ha7.upd.blk_some hv hdv
      have hx1_7 := ha7.upd.blk_some hx1 hnx1
      repeat ((first | refine qA rfl ?_|refine qB ?_|refine qC rfl ?_|refine qD ?_|refine qE ?_|refine qF ?_|refine qG ?_|refine qH ?_);try simp (maxSteps:=1000000)(disch:=(first|omega|(simp only [qI,qJ,qK]<;>omega)|exact qL _)) only [go_sem,↓reduceIte,n0,reduceCtorEq,n1,n2,n3,n4,n5,i0,i1,i2,i3,i4,i5,i6,i7,hv_7,hx1_7,Int.toNat_natCast,Nat.mul_one,hq1_0,hq1_1,hq1_2,hr1_1,hr1_0,hr1_5,hr1_6,hI1,hN1,hS1])
      refine (AppendCompactBytes_fn (ok := OkS okM w.heap.size) _ _ _ ha7.own hB7 _ (y1.at 1).s ((hpe1_1.weaken fun b h1 h2 => ⟨h2,h1⟩).keep (ha7.upd.keeps fun b hb hk => hd b hb hk.1)) (hdK ha7) (ge1_1.text (.inr rfl)) (by simp only [List.length_append,List.length_nil];omega)).mono ?_
      rintro r8 w8 hc8
      rw [← hXXe1_1] at hc8
      have ha8 := ha7.trans hc8
      have hB8 : B ≤ w8.heap.size := Nat.le_trans hB ha8.upd.size
      have hv_8 := ha8.upd.blk_some hv hdv
      have hx1_8 := ha8.upd.blk_some hx1 hnx1
      repeat ((first | refine qA rfl ?_|refine qB ?_|refine qC rfl ?_|refine qD ?_|refine qE ?_|refine qF ?_|refine qG ?_|refine qH ?_);try simp (maxSteps:=1000000)(disch:=(first|omega|(simp only [qI,qJ,qK]<;>omega)|exact qL _)) only [go_sem,↓reduceIte,n0,reduceCtorEq,n1,n2,n3,n4,n5,i0,i1,i2,i3,i4,i5,i6,i7,hv_8,hx1_8,Int.toNat_natCast,Nat.mul_one,hq1_0,hq1_1,hq1_2,hr1_1,hr1_0,hr1_5,hr1_6,hI1,hN1,hS1])
      have hTk8 : TagsM (OkS okM w.heap.size) w8 (.map qme1) y1.u := (hTe1.weaken fun b h1 h2 => ⟨h2,h1⟩).keep (ha8.upd.keeps fun b hb hk => hd b hb hk.1)
      refine (TagsLen_fn (ok := OkS okM w.heap.size) w8 hx1_8 (to := o1 + (j1 * 3 + 2)) hq1_2 hTk8).mono ?_
      rintro _ w8' ⟨rfl,rfl⟩
      have hul8 : y1.u.length ≤ 32767 := hfue1.1
      have ew8 : IntKind.u32.wrap (y1.u.length : Int) = y1.u.length := u32_wrap (by omega)
      have ez8 : IntKind.u32.wrap (0 + (y1.u.length : Int)) = y1.u.length := by rw [Int.zero_add,u32_wrap (by omega)]
      simp (maxSteps:=1000000)(disch:=(first|omega|(simp only [qI,qJ,qK]<;>omega)|exact qL _)) only [go_sem,↓reduceIte,n0,reduceCtorEq,n1,n2,n3,n4,n5,i0,i1,i2,i3,i4,i5,i6,i7,hv_8,hx1_8,Int.toNat_natCast,Nat.mul_one,hq1_0,hq1_1,hq1_2,hr1_1,hr1_0,hr1_5,hr1_6,hI1,hN1,hS1,ew8,ez8]
      refine (AppendUvarint_fn _ _ _ ha8.own hB8 y1.u.length (by omega) (by simp only [List.length_append,List.length_nil];omega)).mono ?_
      rintro r9 w9 hc9
      rw [← hXUe1] at hc9
      have ha9 := ha8.trans hc9
      have hB9 : B ≤ w9.heap.size := Nat.le_trans hB ha9.upd.size
      have hv_9 := ha9.upd.blk_some hv hdv
      have hx1_9 := ha9.upd.blk_some hx1 hnx1
      repeat ((first | refine qA rfl ?_|refine qB ?_|refine qC rfl ?_|refine qD ?_|refine qE ?_|refine qF ?_|refine qG ?_|refine qH ?_);try simp (maxSteps:=1000000)(disch:=(first|omega|(simp only [qI,qJ,qK]<;>omega)|exact qL _)) only [go_sem,↓reduceIte,n0,reduceCtorEq,n1,n2,n3,n4,n5,i0,i1,i2,i3,i4,i5,i6,i7,hv_9,hx1_9,Int.toNat_natCast,Nat.mul_one,hq1_0,hq1_1,hq1_2,hr1_1,hr1_0,hr1_5,hr1_6,hI1,hN1,hS1])
      have hTk9 : TagsM (OkS okM w.heap.size) w9 (.map qme1) y1.u := (hTe1.weaken fun b h1 h2 => ⟨h2,h1⟩).keep (ha9.upd.keeps fun b hb hk => hd b hb hk.1)
      refine (AppendEach_fn (ok := OkS okM w.heap.size) _ _ _ ha9.own hB9 hx1_9 (to := o1 + (j1 * 3 + 2)) hq1_2 hTk9 (rising_keys hfue1) hfue1.1 (tags_small hfue1 hTk9) (hdK ha9) (ownK ha9 (blk_lt hx1) hnx1) (by simp only [List.length_append,List.length_nil];omega)).mono ?_
      rintro r10 w10 hc10
      rw [← hXTe1] at hc10
      have ha10 := ha9.trans hc10
      have hB10 : B ≤ w10.heap.size := Nat.le_trans hB ha10.upd.size
      have hv_10 := ha10.upd.blk_some hv hdv
      have hx1_10 := ha10.upd.blk_some hx1 hnx1
      repeat ((first | refine qA rfl ?_|refine qB ?_|refine qC rfl ?_|refine qD ?_|refine qE ?_|refine qF ?_|refine qG ?_|refine qH ?_);try simp (maxSteps:=1000000)(disch:=(first|omega|(simp only [qI,qJ,qK]<;>omega)|exact qL _)) only [go_sem,↓reduceIte,n0,reduceCtorEq,n1,n2,n3,n4,n5,i0,i1,i2,i3,i4,i5,i6,i7,hr1_1,hr1_0,hr1_5,hr1_6,hI1,hN1,hS1])
      refine ⟨⟨j1 + 1,_,by omega,rfl,rfl,ha10.eqs ?_⟩,?_⟩
      · rw [hcat1,List.flatMap_append,List.flatMap_cons,List.flatMap_nil,List.append_nil,← hTT1,hPe1];simp only [List.append_assoc,List.append_nil,List.nil_append]
      · simp only [RowKit.intOf];omega
    · have hjl1 : j1 = (t.at 6).l.length := by omega
      subst hjl1
      rw [List.take_length,← hXE_6] at ha6
      repeat ((first | refine qA rfl ?_|refine qB ?_|refine qC rfl ?_|refine qD ?_|refine qE ?_|refine qF ?_|refine qG ?_|refine qH ?_);try simp (maxSteps:=1000000)(disch:=(first|omega|(simp only [qI,qJ,qK]<;>omega)|exact qL _)) only [go_sem,↓reduceIte,n0,reduceCtorEq,n1,n2,n3,n4,n5,i0,i1,i2,i3,i4,i5,i6,i7,hI1,hN1])
      exact ⟨_,hr1_1,hr1_0,hr1_5,hr1_6,ha6⟩
  · rintro ρ w11 ⟨r11,hr1_2,hr2_0,hr2_5,hr2_6,ha11⟩
    have hB11 : B ≤ w11.heap.size := Nat.le_trans hB ha11.upd.size
    have hv_11 := ha11.upd.blk_some hv hdv
    repeat ((first | refine qA rfl ?_|refine qB ?_|refine qC rfl ?_|refine qD ?_|refine qE ?_|refine qF ?_|refine qG ?_|refine qH ?_);try simp (maxSteps:=1000000)(disch:=(first|omega|(simp only [qI,qJ,qK]<;>omega)|exact qL _)) only [go_sem,↓reduceIte,n0,reduceCtorEq,n1,n2,n3,n4,n5,i0,i1,i2,i3,i4,i5,i6,i7,hv_11,hr1_2,hr2_0,hr2_5,hr2_6])
    have hTk11 : TagsM (OkS okM w.heap.size) w11 (.map qm) t.u := (hT.weaken fun b h1 h2 => ⟨h2,h1⟩).keep (ha11.upd.keeps fun b hb hk => hd b hb hk.1)
    refine (TagsLen_fn (ok := OkS okM w.heap.size) w11 hv_11 (to := 8) (show (#[.int .i16 ver,strV (t.at 0).s,.int .i32 (IntKind.i32.wrap (t.at 1).n),strV (t.at 2).s,p_3,p_4,p_5,.slice ab_6 (t.at 6).l.length ac_6,.map qm] : Array Value)[8]? = some (.map qm) from rfl) hTk11).mono ?_
    rintro _ w11' ⟨rfl,rfl⟩
    have hul11 : t.u.length ≤ 32767 := hfu.1
    have ew11 : IntKind.u32.wrap (t.u.length : Int) = t.u.length := u32_wrap (by omega)
    have ez11 : IntKind.u32.wrap (0 + (t.u.length : Int)) = t.u.length := by rw [Int.zero_add,u32_wrap (by omega)]
    simp (maxSteps:=1000000)(disch:=(first|omega|(simp only [qI,qJ,qK]<;>omega)|exact qL _)) only [go_sem,↓reduceIte,n0,reduceCtorEq,n1,n2,n3,n4,n5,i0,i1,i2,i3,i4,i5,i6,i7,hv_11,hr1_2,hr2_0,hr2_5,hr2_6,ew11,ez11]
    refine (AppendUvarint_fn _ _ _ ha11.own hB11 t.u.length (by omega) (by simp only [List.length_append,List.length_nil];omega)).mono ?_
    rintro r12 w12 hc12
    rw [← hXU] at hc12
    have ha12 := ha11.trans hc12
    have hB12 : B ≤ w12.heap.size := Nat.le_trans hB ha12.upd.size
    have hv_12 := ha12.upd.blk_some hv hdv
    repeat ((first | refine qA rfl ?_|refine qB ?_|refine qC rfl ?_|refine qD ?_|refine qE ?_|refine qF ?_|refine qG ?_|refine qH ?_);try simp (maxSteps:=1000000)(disch:=(first|omega|(simp only [qI,qJ,qK]<;>omega)|exact qL _)) only [go_sem,↓reduceIte,n0,reduceCtorEq,n1,n2,n3,n4,n5,i0,i1,i2,i3,i4,i5,i6,i7,hv_12,hr1_2,hr2_0,hr2_5,hr2_6])
    have hTk12 : TagsM (OkS okM w.heap.size) w12 (.map qm) t.u := (hT.weaken fun b h1 h2 => ⟨h2,h1⟩).keep (ha12.upd.keeps fun b hb hk => hd b hb hk.1)
    refine (AppendEach_fn (ok := OkS okM w.heap.size) _ _ _ ha12.own hB12 hv_12 (to := 8) (show (#[.int .i16 ver,strV (t.at 0).s,.int .i32 (IntKind.i32.wrap (t.at 1).n),strV (t.at 2).s,p_3,p_4,p_5,.slice ab_6 (t.at 6).l.length ac_6,.map qm] : Array Value)[8]? = some (.map qm) from rfl) hTk12 (rising_keys hfu) hfu.1 (tags_small hfu hTk12) (hdK ha12) (ownK ha12 (blk_lt hv) hdv) (by simp only [List.length_append,List.length_nil];omega)).mono ?_
    rintro r13 w13 hc13
    rw [← hXT] at hc13
    have ha13 := ha12.trans hc13
    have hB13 : B ≤ w13.heap.size := Nat.le_trans hB ha13.upd.size
    have hv_13 := ha13.upd.blk_some hv hdv
    repeat ((first | refine qA rfl ?_|refine qB ?_|refine qC rfl ?_|refine qD ?_|refine qE ?_|refine qF ?_|refine qG ?_|refine qH ?_);try simp (maxSteps:=1000000)(disch:=(first|omega|(simp only [qI,qJ,qK]<;>omega)|exact qL _)) only [go_sem,↓reduceIte,n0,reduceCtorEq,n1,n2,n3,n4,n5,i0,i1,i2,i3,i4,i5,i6,i7,hv_13,hr1_2,hr2_0,hr2_5,hr2_6])
    refine ha13.eqs ?_
    rw [hP];simp only [List.append_assoc,List.append_nil,List.nil_append]
end Ms

namespace Ms
open Go.World renaming size_alloc → qI
open Ms renaming size_wr → qJ,size_drew → qK,not_noB → qL
open W renaming seqR → qA,seq → qB,regR → qC,condK → qD,block → qE,skip → qF,ret → qG,exit → qH
open Nat renaming reduceEqDiff → n0,reduceAdd → n1,reduceMul → n2,reduceSub → n3,reduceLT → n4,reduceLeDiff → n5
open Int renaming reduceEq → i0,reduceLT → i1,reduceLE → i2,reduceNeg → i3,reduceAdd → i4,reduceSub → i5,reduceMul → i6,reduceToNat → i7
set_option maxRecDepth 8000
open Go Go.Proofs Go.Shelf
attribute [local congr] W_congr WPsq_congr WPp_congr optK_congr addrK_congr intK_congr boolK_congr sliceK_congr tupleK_congr funcK_congr Fn_congr rawK_congr takeK_congr stepK_congr convK_congr aggK_congr

set_option maxHeartbeats 4000000 in
theorem appSyncGroupRequest_3 {d B : Nat} {okM : Blocks} {ver : Int} (hlo : 5 ≤ ver) (hhi : ver ≤ 5) (t : Tree) (cells : List Value) (v : Value) (s : List UInt8) (w : World) {vb : Nat} (ho : OwnBy 5 B w v s) (hB : B ≤ w.heap.size) (hvb : blk w vb = some ((.int .i16 ver :: cells).toArray,123,(0,0)))
    (hR : RepS true (d + 2) fs_SyncGroupRequest okM w t cells) (hfit : FitW ver (d + 2) fs_SyncGroupRequest t) (hd : ∀ b,b < w.heap.size → okM b → ¬ ownB v b) (hdv : ¬ ownB v vb) (hlen : s.length + (partS (d + 2) fs_SyncGroupRequest ver true t).length ≤ 2 ^ 41) :
    Fn Tryz.prog 70 #[.pointer (some ⟨vb,0,none⟩),v] w fun r w' => AppR 5 B w v s (partS (d + 2) fs_SyncGroupRequest ver true t) r w' := by
  obtain ⟨⟨g_0,g_1,g_2,g_3,g_4,g_5,g_6,-⟩,hfu⟩ := hfit
  replace g_0 : hasS fSyncGroupRequest_0 ver = true → FitWF (FitW ver (d + 1)) ver fSyncGroupRequest_0 (t.at 0) := g_0
  have hh_0 : hasS fSyncGroupRequest_0 ver = true := hasS_t (by show (0 : Int) ≤ ver;omega) (by show (-1 : Int) < 0 ∨ ver ≤ (-1 : Int);omega)
  replace g_0 := g_0 hh_0
  replace g_1 : hasS fSyncGroupRequest_1 ver = true → FitWF (FitW ver (d + 1)) ver fSyncGroupRequest_1 (t.at 1) := g_1
  have hh_1 : hasS fSyncGroupRequest_1 ver = true := hasS_t (by show (0 : Int) ≤ ver;omega) (by show (-1 : Int) < 0 ∨ ver ≤ (-1 : Int);omega)
  replace g_1 := g_1 hh_1
  replace g_2 : hasS fSyncGroupRequest_2 ver = true → FitWF (FitW ver (d + 1)) ver fSyncGroupRequest_2 (t.at 2) := g_2
  have hh_2 : hasS fSyncGroupRequest_2 ver = true := hasS_t (by show (0 : Int) ≤ ver;omega) (by show (-1 : Int) < 0 ∨ ver ≤ (-1 : Int);omega)
  replace g_2 := g_2 hh_2
  replace g_3 : hasS fSyncGroupRequest_3 ver = true → FitWF (FitW ver (d + 1)) ver fSyncGroupRequest_3 (t.at 3) := g_3
  have hh_3 : hasS fSyncGroupRequest_3 ver = true := hasS_t (by show (3 : Int) ≤ ver;omega) (by show (-1 : Int) < 0 ∨ ver ≤ (-1 : Int);omega)
  replace g_3 := g_3 hh_3
  replace g_4 : hasS fSyncGroupRequest_4 ver = true → FitWF (FitW ver (d + 1)) ver fSyncGroupRequest_4 (t.at 4) := g_4
  have hh_4 : hasS fSyncGroupRequest_4 ver = true := hasS_t (by show (5 : Int) ≤ ver;omega) (by show (-1 : Int) < 0 ∨ ver ≤ (-1 : Int);omega)
  replace g_4 := g_4 hh_4
  replace g_5 : hasS fSyncGroupRequest_5 ver = true → FitWF (FitW ver (d + 1)) ver fSyncGroupRequest_5 (t.at 5) := g_5
  have hh_5 : hasS fSyncGroupRequest_5 ver = true := hasS_t (by show (5 : Int) ≤ ver;omega) (by show (-1 : Int) < 0 ∨ ver ≤ (-1 : Int);omega)
  replace g_5 := g_5 hh_5
  replace g_6 : hasS fSyncGroupRequest_6 ver = true → FitWF (FitW ver (d + 1)) ver fSyncGroupRequest_6 (t.at 6) := g_6
  have hh_6 : hasS fSyncGroupRequest_6 ver = true := hasS_t (by show (0 : Int) ≤ ver;omega) (by show (-1 : Int) < 0 ∨ ver ≤ (-1 : Int);omega)
  replace g_6 := g_6 hh_6
  obtain ⟨cs,q,hcs,hL,hT⟩ := hR.inv
  obtain ⟨c_0,e_0,rfl,h_0,c_1,e_1,rfl,h_1,c_2,e_2,rfl,h_2,c_3,e_3,rfl,h_3,c_4,e_4,rfl,h_4,c_5,e_5,rfl,h_5,c_6,e_6,rfl,h_6,rfl⟩ := hL
  replace h_0 : RepF (RepS true (d + 1)) (szS true (d + 1)) fSyncGroupRequest_0 okM w (t.at 0) c_0 := h_0
  replace h_1 : RepF (RepS true (d + 1)) (szS true (d + 1)) fSyncGroupRequest_1 okM w (t.at 1) c_1 := h_1
  replace h_2 : RepF (RepS true (d + 1)) (szS true (d + 1)) fSyncGroupRequest_2 okM w (t.at 2) c_2 := h_2
  replace h_3 : RepF (RepS true (d + 1)) (szS true (d + 1)) fSyncGroupRequest_3 okM w (t.at 3) c_3 := h_3
  replace h_4 : RepF (RepS true (d + 1)) (szS true (d + 1)) fSyncGroupRequest_4 okM w (t.at 4) c_4 := h_4
  replace h_5 : RepF (RepS true (d + 1)) (szS true (d + 1)) fSyncGroupRequest_5 okM w (t.at 5) c_5 := h_5
  replace h_6 : RepF (RepS true (d + 1)) (szS true (d + 1)) fSyncGroupRequest_6 okM w (t.at 6) c_6 := h_6
  obtain rfl := (RepF_text rfl (by decide)).1 h_0
  obtain rfl := (RepF_num (by decide)).1 h_1
  obtain rfl := (RepF_text rfl (by decide)).1 h_2
  obtain ⟨p_3,rfl,hp_3⟩ := (RepF_ptr rfl (by decide)).1 h_3
  obtain ⟨p_4,rfl,hp_4⟩ := (RepF_ptr rfl (by decide)).1 h_4
  obtain ⟨p_5,rfl,hp_5⟩ := (RepF_ptr rfl (by decide)).1 h_5
  obtain ⟨p_6,rfl,hs_6⟩ := RepF_listW g_6 rfl (by decide) h_6
  obtain ⟨ab_6,ac_6,rfl,_⟩ := SlR.shape hs_6
  have hll_6 := (g_6.list rfl).1
  obtain ⟨qm,rfl⟩ := hT.shape
  have hv : blk w vb = some (#[.int .i16 ver,strV (t.at 0).s,.int .i32 (IntKind.i32.wrap (t.at 1).n),strV (t.at 2).s,p_3,p_4,p_5,.slice ab_6 (t.at 6).l.length ac_6,.map qm],123,(0,0)) := by rw [hvb,hcs];rfl
  clear hvb hcs
  obtain ⟨X_0,hXX_0⟩ : ∃ X,X = uvarS ((t.at 0).s.length + 1) ++ (t.at 0).s := ⟨_,rfl⟩
  obtain ⟨X_1,hXX_1⟩ : ∃ X,X = fixedS (t.at 1).n 4 := ⟨_,rfl⟩
  obtain ⟨X_2,hXX_2⟩ : ∃ X,X = uvarS ((t.at 2).s.length + 1) ++ (t.at 2).s := ⟨_,rfl⟩
  obtain ⟨X_3,hXX_3⟩ : ∃ X,X = if (t.at 3).null = true then [0] else uvarS ((t.at 3).s.length + 1) ++ (t.at 3).s := ⟨_,rfl⟩
  obtain ⟨X_4,hXX_4⟩ : ∃ X,X = if (t.at 4).null = true then [0] else uvarS ((t.at 4).s.length + 1) ++ (t.at 4).s := ⟨_,rfl⟩
  obtain ⟨X_5,hXX_5⟩ : ∃ X,X = if (t.at 5).null = true then [0] else uvarS ((t.at 5).s.length + 1) ++ (t.at 5).s := ⟨_,rfl⟩
  obtain ⟨XL_6,hXL_6⟩ : ∃ X,X = uvarS ((t.at 6).l.length + 1) := ⟨_,rfl⟩
  obtain ⟨XE_6,hXE_6⟩ : ∃ X,X = (t.at 6).l.flatMap (fun x => partS (d + 1) fs_X0 ver true x) := ⟨_,rfl⟩
  obtain ⟨XU,hXU⟩ : ∃ X,X = uvarS t.u.length := ⟨_,rfl⟩
  obtain ⟨XT,hXT⟩ : ∃ X,X = t.u.flatMap oneTag := ⟨_,rfl⟩
  have hP : partS (d + 2) fs_SyncGroupRequest ver true t = (X_0 ++ (X_1 ++ (X_2 ++ (X_3 ++ (X_4 ++ (X_5 ++ ((XL_6 ++ XE_6) ++ []))))))) ++ (XU ++ XT) := by rw [hXU,hXT];exact partS_yes rfl hfu (plainL_has (by decide) hh_0 ((fieldS_text_t g_0 rfl (by decide)).trans hXX_0.symm) (plainL_has (by decide) hh_1 ((fieldS_num 3 rfl (by decide)).trans hXX_1.symm) (plainL_has (by decide) hh_2 ((fieldS_text_t g_2 rfl (by decide)).trans hXX_2.symm) (plainL_has (by decide) hh_3 ((fieldS_ptr_t g_3 rfl (by decide)).trans hXX_3.symm) (plainL_has (by decide) hh_4 ((fieldS_ptr_t g_4 rfl (by decide)).trans hXX_4.symm) (plainL_has (by decide) hh_5 ((fieldS_ptr_t g_5 rfl (by decide)).trans hXX_5.symm) (plainL_has (by decide) hh_6 ((fieldS_list_t (g := (fun x => partS (d + 1) fs_X0 ver true x)) g_6 rfl (by decide) (fun x _ => valueS_part)).trans (by rw [hXL_6,hXE_6])) rfl)))))))
  rw [hP] at hlen
  simp only [List.length_append,List.length_nil] at hlen
  have hdK : ∀ {r : Value} {w' : World} {add : List UInt8},AppR 5 B w v s add r w' → ∀ b,b < w'.heap.size → OkS okM w.heap.size b → ¬ ownB r b := fun h b _ hk ho => (h.frame b ho).elim (hd b hk.2 hk.1) (fun h => by have := hk.2;omega)
  have ownK : ∀ {r : Value} {w' : World} {add : List UInt8} {b : Nat},AppR 5 B w v s add r w' → b < w.heap.size → ¬ ownB v b → ¬ ownB r b := fun h hb hn ho => (h.frame _ ho).elim hn (fun h => by omega)
  have ha0 : AppR 5 B w v s [] v w := AppR.refl ho
  obtain ⟨w0,hw0⟩ : ∃ w0,w0 = w := ⟨_,rfl⟩
  have hB0 := hB
  have hv_0 := hv
  refine fn_of_W Tryz.func70 rfl Tryz.results70 Tryz.ntmps70 rfl ?_
  repeat ((first | refine qA rfl ?_|refine qB ?_|refine qC rfl ?_|refine qD ?_|refine qE ?_|refine qF ?_|refine qG ?_|refine qH ?_);try simp (maxSteps:=1000000)(disch:=(first|omega|(simp only [qI,qJ,qK]<;>omega)|exact qL _)) only [go_sem,↓reduceIte,n0,reduceCtorEq,n1,n2,n3,n4,n5,i0,i1,i2,i3,i4,i5,i6,i7,hv_0])
  refine (AppendCompactString_fn _ _ _ ha0.own hB0 (t.at 0).s (g_0.text (.inl rfl)) (by simp only [List.length_append,List.length_nil];omega)).mono ?_
  rintro r1 w1 hc1
  rw [← hXX_0] at hc1
  have ha1 := ha0.trans hc1
  have hB1 : B ≤ w1.heap.size := Nat.le_trans hB ha1.upd.size
  have hv_1 := ha1.upd.blk_some hv hdv
  repeat ((first | refine qA rfl ?_|refine qB ?_|refine qC rfl ?_|refine qD ?_|refine qE ?_|refine qF ?_|refine qG ?_|refine qH ?_);try simp (maxSteps:=1000000)(disch:=(first|omega|(simp only [qI,qJ,qK]<;>omega)|exact qL _)) only [go_sem,↓reduceIte,n0,reduceCtorEq,n1,n2,n3,n4,n5,i0,i1,i2,i3,i4,i5,i6,i7,hv_1])
  refine (AppendInt32_fn _ _ _ ha1.own hB1 _ (by simp only [List.length_append,List.length_nil];omega)).mono ?_
  rintro r2 w2 hc2
  rw [wrap32,← hXX_1] at hc2
  have ha2 := ha1.trans hc2
  have hB2 : B ≤ w2.heap.size := Nat.le_trans hB ha2.upd.size
  have hv_2 := ha2.upd.blk_some hv hdv
  repeat ((first | refine qA rfl ?_|refine qB ?_|refine qC rfl ?_|refine qD ?_|refine qE ?_|refine qF ?_|refine qG ?_|refine qH ?_);try simp (maxSteps:=1000000)(disch:=(first|omega|(simp only [qI,qJ,qK]<;>omega)|exact qL _)) only [go_sem,↓reduceIte,n0,reduceCtorEq,n1,n2,n3,n4,n5,i0,i1,i2,i3,i4,i5,i6,i7,hv_2])
  refine (AppendCompactString_fn _ _ _ ha2.own hB2 (t.at 2).s (g_2.text (.inl rfl)) (by simp only [List.length_append,List.length_nil];omega)).mono ?_
  rintro r3 w3 hc3
  rw [← hXX_2] at hc3
  have ha3 := ha2.trans hc3
  have hB3 : B ≤ w3.heap.size := Nat.le_trans hB ha3.upd.size
  have hv_3 := ha3.upd.blk_some hv hdv
  repeat ((first | refine qA rfl ?_|refine qB ?_|refine qC rfl ?_|refine qD ?_|refine qE ?_|refine qF ?_|refine qG ?_|refine qH ?_);try simp (maxSteps:=1000000)(disch:=(first|omega|(simp only [qI,qJ,qK]<;>omega)|exact qL _)) only [go_sem,↓reduceIte,n0,reduceCtorEq,n1,n2,n3,n4,n5,i0,i1,i2,i3,i4,i5,i6,i7,hv_3])
  refine (AppendCompactNullableString_fn (ok := okM) _ _ _ ha3.own hB3 _ (t.at 3).null (t.at 3).s (hp_3.keep (ha3.upd.keeps hd)) (g_3.text (.inl rfl)) (by simp only [List.length_append,List.length_nil];omega)).mono ?_
  rintro r4 w4 hc4
  rw [← hXX_3] at hc4
  have ha4 := ha3.trans hc4
  have hB4 : B ≤ w4.heap.size := Nat.le_trans hB ha4.upd.size
  have hv_4 := ha4.upd.blk_some hv hdv
  repeat ((first | refine qA rfl ?_|refine qB ?_|refine qC rfl ?_|refine qD ?_|refine qE ?_|refine qF ?_|refine qG ?_|refine qH ?_);try simp (maxSteps:=1000000)(disch:=(first|omega|(simp only [qI,qJ,qK]<;>omega)|exact qL _)) only [go_sem,↓reduceIte,n0,reduceCtorEq,n1,n2,n3,n4,n5,i0,i1,i2,i3,i4,i5,i6,i7,hv_4])
  refine (AppendCompactNullableString_fn (ok := okM) _ _ _ ha4.own hB4 _ (t.at 4).null (t.at 4).s (hp_4.keep (ha4.upd.keeps hd)) (g_4.text (.inl rfl)) (by simp only [List.length_append,List.length_nil];omega)).mono ?_
  rintro r5 w5 hc5
  rw [← hXX_4] at hc5
  have ha5 := ha4.trans hc5
  have hB5 : B ≤ w5.heap.size := Nat.le_trans hB ha5.upd.size
  have hv_5 := ha5.upd.blk_some hv hdv
  repeat ((first | refine qA rfl ?_|refine qB ?_|refine qC rfl ?_|refine qD ?_|refine qE ?_|refine qF ?_|refine qG ?_|refine qH ?_);try simp (maxSteps:=1000000)(disch:=(first|omega|(simp only [qI,qJ,qK]<;>omega)|exact qL _)) only [go_sem,↓reduceIte,n0,reduceCtorEq,n1,n2,n3,n4,n5,i0,i1,i2,i3,i4,i5,i6,i7,hv_5])
  refine (AppendCompactNullableString_fn (ok := okM) _ _ _ ha5.own hB5 _ (t.at 5).null (t.at 5).s (hp_5.keep (ha5.upd.keeps hd)) (g_5.text (.inl rfl)) (by simp only [List.length_append,List.length_nil];omega)).mono ?_
  rintro r6 w6 hc6
  rw [← hXX_5] at hc6
  have ha6 := ha5.trans hc6
  have hB6 : B ≤ w6.heap.size := Nat.le_trans hB ha6.upd.size
  have hv_6 := ha6.upd.blk_some hv hdv
  repeat ((first | refine qA rfl ?_|refine qB ?_|refine qC rfl ?_|refine qD ?_|refine qE ?_|refine qF ?_|refine qG ?_|refine qH ?_);try simp (maxSteps:=1000000)(disch:=(first|omega|(simp only [qI,qJ,qK]<;>omega)|exact qL _)) only [go_sem,↓reduceIte,n0,reduceCtorEq,n1,n2,n3,n4,n5,i0,i1,i2,i3,i4,i5,i6,i7,hv_6])
  refine (AppendCompactArrayLen_fn _ _ _ ha6.own hB6 (t.at 6).l.length hll_6 (by simp only [List.length_append,List.length_nil];omega)).mono ?_
  rintro r7 w7 hc7
  rw [← hXL_6] at hc7
  have ha7 := ha6.trans hc7
  have hB7 : B ≤ w7.heap.size := Nat.le_trans hB ha7.upd.size
  have hv_7 := ha7.upd.blk_some hv hdv
  repeat ((first | refine qA rfl ?_|refine qB ?_|refine qC rfl ?_|refine qD ?_|refine qE ?_|refine qF ?_|refine qG ?_|refine qH ?_);try simp (maxSteps:=1000000)(disch:=(first|omega|(simp only [qI,qJ,qK]<;>omega)|exact qL _)) only [go_sem,↓reduceIte,n0,reduceCtorEq,n1,n2,n3,n4,n5,i0,i1,i2,i3,i4,i5,i6,i7,hv_7])
  have hadd1 := ha7
  refine W.exitJ 0 (fun ρ w' => ∃ r,ρ 1 = r ∧ ρ 0 = .pointer (some ⟨vb,0,none⟩) ∧ ρ 5 = .int .i16 ver ∧ ρ 6 = .bool true ∧ AppR 5 B w v s (([] ++ X_0 ++ X_1 ++ X_2 ++ X_3 ++ X_4 ++ X_5 ++ XL_6) ++ XE_6) r w')
    (W.loop (fun ρ w' => ∃ (j : Nat) (r : Value),j ≤ (t.at 6).l.length ∧ ρ 109 = .int .i64 j ∧ ρ 108 = .int .i64 (t.at 6).l.length ∧ ρ 13 = .slice ab_6 (t.at 6).l.length ac_6 ∧ ρ 1 = r ∧ ρ 0 = .pointer (some ⟨vb,0,none⟩) ∧ ρ 5 = .int .i16 ver ∧ ρ 6 = .bool true ∧ AppR 5 B w v s (([] ++ X_0 ++ X_1 ++ X_2 ++ X_3 ++ X_4 ++ X_5 ++ XL_6) ++ ((t.at 6).l.take j).flatMap (fun x => partS (d + 1) fs_X0 ver true x)) r w')
      (fun ρ _ => (t.at 6).l.length - (RowKit.intOf (ρ 109)).toNat) ?_ ?_) ?_
  · refine ⟨0,_,Nat.zero_le _,?_,?_,?_,?_,?_,?_,?_,ha7.eqs (by rw [List.take_zero,List.flatMap_nil,List.append_nil])⟩ <;> simp (maxSteps:=1000000)(disch:=(first|omega|(simp only [qI,qJ,qK]<;>omega)|exact qL _)) only [go_sem,↓reduceIte,n0,reduceCtorEq,n1,n2,n3,n4,n5,i0,i1,i2,i3,i4,i5,i6,i7]
    all_goals rfl
  · rintro ρ w8 ⟨j1,r8,hj1,hI1,hN1,hS1,hr1_1,hr1_0,hr1_5,hr1_6,ha8⟩
    have hB8 : B ≤ w8.heap.size := Nat.le_trans hB ha8.upd.size
    have hv_8 := ha8.upd.blk_some hv hdv
    by_cases hlt1 : j1 < (t.at 6).l.length
    · obtain ⟨_,b1,o1,x1,ce1,hb1,hok1,hx1,hbl1,hxs1,hxe1,hq1,hRe1⟩ := SlR.get (size := 3) (by decide) hs_6 hlt1
      subst hb1
      have hcat1 : (t.at 6).l.take (j1 + 1) = (t.at 6).l.take j1 ++ [(t.at 6).l[j1]] := List.take_succ_eq_append_getElem hlt1
      have htl1 := take_flatMap_len (t.at 6).l (fun x => partS (d + 1) fs_X0 ver true x) (j1 + 1)
      rw [← hXE_6,hcat1,List.flatMap_append,List.flatMap_cons,List.flatMap_nil,List.append_nil] at htl1
      have hge1 := (g_6.list rfl).2 _ (List.getElem_mem hlt1)
      generalize (t.at 6).l[j1] = y1 at *
      have hnx1 := hd b1 hbl1 hok1
      obtain ⟨T1,hTT1⟩ : ∃ T,T = ((t.at 6).l.take j1).flatMap (fun x => partS (d + 1) fs_X0 ver true x) := ⟨_,rfl⟩
      rw [← hTT1] at ha8 htl1
      have hx1_8 := ha8.upd.blk_some hx1 hnx1
      replace hRe1 : RepS true (d + 1) fs_X0 okM w y1 ce1 := Rep1_part.1 hRe1
      have hfe1 : FitW ver (d + 1) fs_X0 y1 := hge1.2 rfl
      obtain ⟨⟨ge1_0,ge1_1,-⟩,hfue1⟩ := hfe1
      replace ge1_0 : hasS fX0_0 ver = true → FitWF (FitW ver d) ver fX0_0 (y1.at 0) := ge1_0
      have hhe1_0 : hasS fX0_0 ver = true := hasS_t (by show (0 : Int) ≤ ver;omega) (by show (-1 : Int) < 0 ∨ ver ≤ (-1 : Int);omega)
      replace ge1_0 := ge1_0 hhe1_0
      replace ge1_1 : hasS fX0_1 ver = true → FitWF (FitW ver d) ver fX0_1 (y1.at 1) := ge1_1
      have hhe1_1 : hasS fX0_1 ver = true := hasS_t (by show (0 : Int) ≤ ver;omega) (by show (-1 : Int) < 0 ∨ ver ≤ (-1 : Int);omega)
      replace ge1_1 := ge1_1 hhe1_1
      obtain ⟨cse1,qe1,hcse1,hLe1,hTe1⟩ := hRe1.inv
      obtain ⟨ce1_0,ee1_0,rfl,he1_0,ce1_1,ee1_1,rfl,he1_1,rfl⟩ := hLe1
      replace he1_0 : RepF (RepS true d) (szS true d) fX0_0 okM w (y1.at 0) ce1_0 := he1_0
      replace he1_1 : RepF (RepS true d) (szS true d) fX0_1 okM w (y1.at 1) ce1_1 := he1_1
      obtain rfl := (RepF_text rfl (by decide)).1 he1_0
      obtain ⟨pe1_1,rfl,hpe1_1⟩ := RepF_bytesW ge1_1 rfl (by decide) he1_1
      obtain ⟨qme1,rfl⟩ := hTe1.shape
      subst hcse1
      have hq1_0 : x1.1[o1 + j1 * 3]? = some (strV (y1.at 0).s) := hq1 0 (by decide)
      have hq1_1 : x1.1[o1 + (j1 * 3 + 1)]? = some (pe1_1) := hq1 1 (by decide)
      have hq1_2 : x1.1[o1 + (j1 * 3 + 2)]? = some (.map qme1) := hq1 2 (by decide)
      obtain ⟨Xe1_0,hXXe1_0⟩ : ∃ X,X = uvarS ((y1.at 0).s.length + 1) ++ (y1.at 0).s := ⟨_,rfl⟩
      obtain ⟨Xe1_1,hXXe1_1⟩ : ∃ X,X = uvarS ((y1.at 1).s.length + 1) ++ (y1.at 1).s := ⟨_,rfl⟩
      obtain ⟨XUe1,hXUe1⟩ : ∃ X,X = uvarS y1.u.length := ⟨_,rfl⟩
      obtain ⟨XTe1,hXTe1⟩ : ∃ X,X = y1.u.flatMap oneTag := ⟨_,rfl⟩
      have hPe1 : partS (d + 1) fs_X0 ver true y1 = (Xe1_0 ++ (Xe1_1 ++ [])) ++ (XUe1 ++ XTe1) := by rw [hXUe1,hXTe1];exact partS_yes rfl hfue1 (plainL_has (by decide) hhe1_0 ((fieldS_text_t ge1_0 rfl (by decide)).trans hXXe1_0.symm) (plainL_has (by decide) hhe1_1 ((fieldS_bytes_t ge1_1 rfl (by decide)).trans hXXe1_1.symm) rfl))
      rw [hPe1] at htl1
      simp only [List.length_append,List.length_nil] at htl1
      repeat ((first | refine qA rfl ?_|refine qB ?_|refine qC rfl ?_|refine qD ?_|refine qE ?_|refine qF ?_|refine qG ?_|refine qH ?_);try simp (maxSteps:=1000000)(disch:=(first|omega|(simp only [qI,qJ,qK]<;>omega)|exact qL _)) only [go_sem,↓reduceIte,n0,reduceCtorEq,n1,n2,n3,n4,n5,i0,i1,i2,i3,i4,i5,i6,i7,hv_8,hx1_8,Int.toNat_natCast,Nat.mul_one,hq1_0,hq1_1,hq1_2,hr1_1,hr1_0,hr1_5,hr1_6,hI1,hN1,hS1])
      refine (AppendCompactString_fn _ _ _ ha8.own hB8 (y1.at 0).s (ge1_0.text (.inl rfl)) (by simp only [List.length_append,List.length_nil];omega)).mono ?_
      rintro r9 w9 hc9
      rw [← hXXe1_0] at hc9
      have ha9 := ha8.trans hc9
      have hB9 : B ≤ w9.heap.size := Nat.le_trans hB ha9.upd.size
      have hv_9 := ha9.upd.blk_some hv hdv
      have hx1_9 := ha9.upd.blk_some hx1 hnx1
      repeat ((first | refine qA rfl ?_|refine qB ?_|refine qC rfl ?_|refine qD ?_|refine qE ?_|refine qF ?_|refine qG ?_|refine qH ?_);try simp (maxSteps:=1000000)(disch:=(first|omega|(simp only [qI,qJ,qK]<;>omega)|exact qL _)) only [go_sem,↓reduceIte,n0,reduceCtorEq,n1,n2,n3,n4,n5,i0,i1,i2,i3,i4,i5,i6,i7,hv_9,hx1_9,Int.toNat_natCast,Nat.mul_one,hq1_0,hq1_1,hq1_2,hr1_1,hr1_0,hr1_5,hr1_6,hI1,hN1,hS1])
      refine (AppendCompactBytes_fn (ok := OkS okM w.heap.size) _ _ _ ha9.own hB9 _ (y1.at 1).s ((hpe1_1.weaken fun b h1 h2 => ⟨h2,h1⟩).keep (ha9.upd.keeps fun b hb hk => hd b hb hk.1)) (hdK ha9) (ge1_1.text (.inr rfl)) (by simp only [List.length_append,List.length_nil];omega)).mono ?_
      rintro r10 w10 hc10
      rw [← hXXe1_1] at hc10
      have ha10 := ha9.trans hc10
      have hB10 : B ≤ w10.heap.size := Nat.le_trans hB ha10.upd.size
      have hv_10 := ha10.upd.blk_some hv hdv
      have hx1_10 := ha10.upd.blk_some hx1 hnx1
      repeat ((first | refine qA rfl ?_|refine qB ?_|refine qC rfl ?_|refine qD ?_|refine qE ?_|refine qF ?_|refine qG ?_|refine qH ?_);try simp (maxSteps:=1000000)(disch:=(first|omega|(simp only [qI,qJ,qK]<;>omega)|exact qL _)) only [go_sem,↓reduceIte,n0,reduceCtorEq,n1,n2,n3,n4,n5,i0,i1,i2,i3,i4,i5,i6,i7,hv_10,hx1_10,Int.toNat_natCast,Nat.mul_one,hq1_0,hq1_1,hq1_2,hr1_1,hr1_0,hr1_5,hr1_6,hI1,hN1,hS1])
      have hTk10 : TagsM (OkS okM w.heap.size) w10 (.map qme1) y1.u := (hTe1.weaken fun b h1 h2 => ⟨h2,h1⟩).keep (ha10.upd.keeps fun b hb hk => hd b hb hk.1)
      refine (TagsLen_fn (ok := OkS okM w.heap.size) w10 hx1_10 (to := o1 + (j1 * 3 + 2)) hq1_2 hTk10).mono ?_
      rintro _ w10' ⟨rfl,rfl⟩
      have hul10 : y1.u.length ≤ 32767 := hfue1.1
      have ew10 : IntKind.u32.wrap (y1.u.length : Int) = y1.u.length := u32_wrap (by omega)
      have ez10 : IntKind.u32.wrap (0 + (y1.u.length : Int)) = y1.u.length := by rw [Int.zero_add,u32_wrap (by omega)]
      simp (maxSteps:=1000000)(disch:=(first|omega|(simp only [qI,qJ,qK]<;>omega)|exact qL _)) only [go_sem,↓reduceIte,n0,reduceCtorEq,n1,n2,n3,n4,n5,i0,i1,i2,i3,i4,i5,i6,i7,hv_10,hx1_10,Int.toNat_natCast,Nat.mul_one,hq1_0,hq1_1,hq1_2,hr1_1,hr1_0,hr1_5,hr1_6,hI1,hN1,hS1,ew10,ez10]
      refine (AppendUvarint_fn _ _ _ ha10.own hB10 y1.u.length (by omega) (by simp only [List.length_append,List.length_nil];omega)).mono ?_
      rintro r11 w11 hc11
      rw [← hXUe1] at hc11
      have ha11 := ha10.trans hc11
      have hB11 : B ≤ w11.heap.size := Nat.le_trans hB ha11.upd.size
      have hv_11 := ha11.upd.blk_some hv hdv
      have hx1_11 := ha11.upd.blk_some hx1 hnx1
      repeat ((first | refine qA rfl ?_|refine qB ?_|refine qC rfl ?_|refine qD ?_|refine qE ?_|refine qF ?_|refine qG ?_|refine qH ?_);try simp (maxSteps:=1000000)(disch:=(first|omega|(simp only [qI,qJ,qK]<;>omega)|exact qL _)) only [go_sem,↓reduceIte,n0,reduceCtorEq,n1,n2,n3,n4,n5,i0,i1,i2,i3,i4,i5,i6,i7,hv_11,hx1_11,Int.toNat_natCast,Nat.mul_one,hq1_0,hq1_1,hq1_2,hr1_1,hr1_0,hr1_5,hr1_6,hI1,hN1,hS1])
      have hTk11 : TagsM (OkS okM w.heap.size) w11 (.map qme1) y1.u := (hTe1.weaken fun b h1 h2 => ⟨h2,h1⟩).keep (ha11.upd.keeps fun b hb hk => hd b hb hk.1)
      refine (AppendEach_fn (ok := OkS okM w.heap.size) _ _ _ ha11.own hB11 hx1_11 (to := o1 + (j1 * 3 + 2)) hq1_2 hTk11 (rising_keys hfue1) hfue1.1 (tags_small hfue1 hTk11) (hdK ha11) (ownK ha11 (blk_lt hx1) hnx1) (by simp only [List.length_append,List.length_nil];omega)).mono ?_
      rintro r12 w12 hc12
      rw [← hXTe1] at hc12
      have ha12 := ha11.trans hc12
      have hB12 : B ≤ w12.heap.size := Nat.le_trans hB ha12.upd.size
      have hv_12 := ha12.upd.blk_some hv hdv
      have hx1_12 := ha12.upd.blk_some hx1 hnx1
      repeat ((first | refine qA rfl ?_|refine qB ?_|refine qC rfl ?_|refine qD ?_|refine qE ?_|refine qF ?_|refine qG ?_|refine qH ?_);try simp (maxSteps:=1000000)(disch:=(first|omega|(simp only [qI,qJ,qK]<;>omega)|exact qL _)) only [go_sem,↓reduceIte,n0,reduceCtorEq,n1,n2,n3,n4,n5,i0,i1,i2,i3,i4,i5,i6,i7,hr1_1,hr1_0,hr1_5,hr1_6,hI1,hN1,hS1])
      refine ⟨⟨j1 + 1,_,by omega,rfl,rfl,ha12.eqs ?_⟩,?_⟩
      · rw [hcat1,List.flatMap_append,List.flatMap_cons,List.flatMap_nil,List.append_nil,← hTT1,hPe1];simp only [List.append_assoc,List.append_nil,List.nil_append]
      · simp only [RowKit.intOf];omega
    · have hjl1 : j1 = (t.at 6).l.length := by omega
      subst hjl1
      rw [List.take_length,← hXE_6] at ha8
      repeat ((first | refine qA rfl ?_|refine qB ?_|refine qC rfl ?_|refine qD ?_|refine qE ?_|refine qF ?_|refine qG ?_|refine qH ?_);try simp (maxSteps:=1000000)(disch:=(first|omega|(simp only [qI,qJ,qK]<;>omega)|exact qL _)) only [go_sem,↓reduceIte,n0,reduceCtorEq,n1,n2,n3,n4,n5,i0,i1,i2,i3,i4,i5,i6,i7,hI1,hN1])
      exact ⟨_,hr1_1,hr1_0,hr1_5,hr1_6,ha8⟩
  · rintro ρ w13 ⟨r13,hr1_2,hr2_0,hr2_5,hr2_6,ha13⟩
    have hB13 : B ≤ w13.heap.size := Nat.le_trans hB ha13.upd.size
    have hv_13 := ha13.upd.blk_some hv hdv
    repeat ((first | refine qA rfl ?_|refine qB ?_|refine qC rfl ?_|refine qD ?_|refine qE ?_|refine qF ?_|refine qG ?_|refine qH ?_);try simp (maxSteps:=1000000)(disch:=(first|omega|(simp only [qI,qJ,qK]<;>omega)|exact qL _)) only [go_sem,↓reduceIte,n0,reduceCtorEq,n1,n2,n3,n4,n5,i0,i1,i2,i3,i4,i5,i6,i7,hv_13,hr1_2,hr2_0,hr2_5,hr2_6])
    have hTk13 : TagsM (OkS okM w.heap.size) w13 (.map qm) t.u := (hT.weaken fun b h1 h2 => ⟨h2,h1⟩).keep (ha13.upd.keeps fun b hb hk => hd b hb hk.1)
    refine (TagsLen_fn (ok := OkS okM w.heap.size) w13 hv_13 (to := 8) (show (#[.int .i16 ver,strV (t.at 0).s,.int .i32 (IntKind.i32.wrap (t.at 1).n),strV (t.at 2).s,p_3,p_4,p_5,.slice ab_6 (t.at 6).l.length ac_6,.map qm] : Array Value)[8]? = some (.map qm) from rfl) hTk13).mono ?_
    rintro _ w13' ⟨rfl,rfl⟩
    have hul13 : t.u.length ≤ 32767 := hfu.1
    have ew13 : IntKind.u32.wrap (t.u.length : Int) = t.u.length := u32_wrap (by omega)
    have ez13 : IntKind.u32.wrap (0 + (t.u.length : Int)) = t.u.length := by rw [Int.zero_add,u32_wrap (by omega)]
    simp (maxSteps:=1000000)(disch:=(first|omega|(simp only [qI,qJ,qK]<;>omega)|exact qL _)) only [go_sem,↓reduceIte,n0,reduceCtorEq,n1,n2,n3,n4,n5,i0,i1,i2,i3,i4,i5,i6,i7,hv_13,hr1_2,hr2_0,hr2_5,hr2_6,ew13,ez13]
    refine (AppendUvarint_fn _ _ _ ha13.own hB13 t.u.length (by omega) (by simp only [List.length_append,List.length_nil];omega)).mono ?_
    rintro r14 w14 hc14
    rw [← hXU] at hc14
    have ha14 := ha13.trans hc14
    have hB14 : B ≤ w14.heap.size := Nat.le_trans hB ha14.upd.size
    have hv_14 := ha14.upd.blk_some hv hdv
    repeat ((first | refine qA rfl ?_|refine qB ?_|refine qC rfl ?_|refine qD ?_|refine qE ?_|refine qF ?_|refine qG ?_|refine qH ?_);try simp (maxSteps:=1000000)(disch:=(first|omega|(simp only [qI,qJ,qK]<;>omega)|exact qL _)) only [go_sem,↓reduceIte,n0,reduceCtorEq,n1,n2,n3,n4,n5,i0,i1,i2,i3,i4,i5,i6,i7,hv_14,hr1_2,hr2_0,hr2_5,hr2_6])
    have hTk14 : TagsM (OkS okM w.heap.size) w14 (.map qm) t.u := (hT.weaken fun b h1 h2 => ⟨h2,h1⟩).keep (ha14.upd.keeps fun b hb hk => hd b hb hk.1)
    refine (AppendEach_fn (ok := OkS okM w.heap.size) _ _ _ ha14.own hB14 hv_14 (to := 8) (show (#[.int .i16 ver,strV (t.at 0).s,.int .i32 (IntKind.i32.wrap (t.at 1).n),strV (t.at 2).s,p_3,p_4,p_5,.slice ab_6 (t.at 6).l.length ac_6,.map qm] : Array Value)[8]? = some (.map qm) from rfl) hTk14 (rising_keys hfu) hfu.1 (tags_small hfu hTk14) (hdK ha14) (ownK ha14 (blk_lt hv) hdv) (by simp only [List.length_append,List.length_nil];omega)).mono ?_
    rintro r15 w15 hc15
    rw [← hXT] at hc15
    have ha15 := ha14.trans hc15
    have hB15 : B ≤ w15.heap.size := Nat.le_trans hB ha15.upd.size
    have hv_15 := ha15.upd.blk_some hv hdv
    repeat ((first | refine qA rfl ?_|refine qB ?_|refine qC rfl ?_|refine qD ?_|refine qE ?_|refine qF ?_|refine qG ?_|refine qH ?_);try simp (maxSteps:=1000000)(disch:=(first|omega|(simp only [qI,qJ,qK]<;>omega)|exact qL _)) only [go_sem,↓reduceIte,n0,reduceCtorEq,n1,n2,n3,n4,n5,i0,i1,i2,i3,i4,i5,i6,i7,hv_15,hr1_2,hr2_0,hr2_5,hr2_6])
    refine ha15.eqs ?_
    rw [hP];simp only [List.append_assoc,List.append_nil,List.nil_append]
end Ms

namespace Ms
open Go.World renaming size_alloc → qI
open Ms renaming size_wr → qJ,size_drew → qK,not_noB → qL
open W renaming seqR → qA,seq → qB,regR → qC,condK → qD,block → qE,skip → qF,ret → qG,exit → qH
open Nat renaming reduceEqDiff → n0,reduceAdd → n1,reduceMul → n2,reduceSub → n3,reduceLT → n4,reduceLeDiff → n5
open Int renaming reduceEq → i0,reduceLT → i1,reduceLE → i2,reduceNeg → i3,reduceAdd → i4,reduceSub → i5,reduceMul → i6,reduceToNat → i7
set_option maxRecDepth 8000
open Go Go.Proofs Go.Shelf
attribute [local congr] W_congr WPsq_congr WPp_congr optK_congr addrK_congr intK_congr boolK_congr sliceK_congr tupleK_congr funcK_congr Fn_congr rawK_congr takeK_congr stepK_congr convK_congr aggK_congr

set_option maxHeartbeats 2000000 in
theorem BehindSyncGroupRequest_fn {d : Nat} {ok : Blocks} {ev : Value} (ver : Nat) (hv : ver ≤ 5) (t : Tree) (dst b : Value) (D : List UInt8) (w : World) (hd : BytesV ok w dst D) (hb : BytesV ok w b (partS (d + 2) fs_SyncGroupRequest ver (flexB 4 ver) t)) (hG : Glo ev w) (hrd : rdP (d + 2) ver (flexB 4 ver) fs_SyncGroupRequest (some (partS (d + 2) fs_SyncGroupRequest ver (flexB 4 ver) t)) = (cnP (d + 2) ver (flexB 4 ver) fs_SyncGroupRequest t,some []))
    (hcn : partS (d + 2) fs_SyncGroupRequest ver (flexB 4 ver) (cnP (d + 2) ver (flexB 4 ver) fs_SyncGroupRequest t) = (partS (d + 2) fs_SyncGroupRequest ver (flexB 4 ver) t) ∧ FitW ver (d + 2) fs_SyncGroupRequest (cnP (d + 2) ver (flexB 4 ver) fs_SyncGroupRequest t)) (hD : D.length ≤ 1000) (hl : (partS (d + 2) fs_SyncGroupRequest ver (flexB 4 ver) t).length ≤ 2 ^ 40) :
    Fn Tryz.prog 31 #[.int .i64 ver,dst,b] w fun r w' => (∃ v,r = .tuple #[v,.bool true] ∧ OwnBy 5 w.heap.size w' v (D ++ (partS (d + 2) fs_SyncGroupRequest ver (flexB 4 ver) t))) ∧ Ext w w' := by
  obtain ⟨da,dc,rfl,_⟩ := hd.shape
  obtain ⟨ba,bc,rfl,_⟩ := hb.shape
  have hgl := hG.lt
  have ew : IntKind.i16.wrap (ver : Int) = ver := i16_wrap (by omega)
  refine fn_of_W Tryz.func31 rfl Tryz.results31 Tryz.ntmps31 rfl ?_
  repeat ((first | refine qA rfl ?_|refine qB ?_|refine qC rfl ?_|refine qD ?_|refine qE ?_|refine qF ?_|refine qG ?_|refine qH ?_);try simp (maxSteps:=1000000)(disch:=(first|omega|(simp only [qI,qJ,qK]<;>omega)|exact qL _)) only [go_sem,↓reduceIte,n0,reduceCtorEq,n1,n2,n3,n4,n5,i0,i1,i2,i3,i4,i5,i6,i7,ew])
  refine (NewPtrSyncGroupRequest_fn w).mono ?_
  rintro _ w1 ⟨rfl,hb1,hE1⟩
  have hz1 := blk_lt hb1
  repeat ((first | refine qA rfl ?_|refine qB ?_|refine qC rfl ?_|refine qD ?_|refine qE ?_|refine qF ?_|refine qG ?_|refine qH ?_);try simp (maxSteps:=1000000)(disch:=(first|omega|(simp only [qI,qJ,qK]<;>omega)|exact qL _)) only [go_sem,↓reduceIte,n0,reduceCtorEq,n1,n2,n3,n4,n5,i0,i1,i2,i3,i4,i5,i6,i7,ew])
  refine (SetVersionSyncGroupRequest_fn w1 (vb := w.heap.size) ver hb1).mono ?_
  rintro _ w2 ⟨hb2,hU2⟩
  have hz2 := hU2.size
  have hE2 : Ext w w2 := hE1.more hU2 fun b hb h => by omega
  repeat ((first | refine qA rfl ?_|refine qB ?_|refine qC rfl ?_|refine qD ?_|refine qE ?_|refine qF ?_|refine qG ?_|refine qH ?_);try simp (maxSteps:=1000000)(disch:=(first|omega|(simp only [qI,qJ,qK]<;>omega)|exact qL _)) only [go_sem,↓reduceIte,n0,reduceCtorEq,n1,n2,n3,n4,n5,i0,i1,i2,i3,i4,i5,i6,i7,ew])
  refine wp_copyN ap_22_22 (ok := ok) (s := (partS (d + 2) fs_SyncGroupRequest ver (flexB 4 ver) t)) (v := .slice ba _ bc) (by first | rfl | simp (maxSteps:=1000000)(disch:=(first|omega|(simp only [qI,qJ,qK]<;>omega)|exact qL _)) only [go_sem,↓reduceIte,n0,reduceCtorEq,n1,n2,n3,n4,n5,i0,i1,i2,i3,i4,i5,i6,i7]) (by first | rfl | simp (maxSteps:=1000000)(disch:=(first|omega|(simp only [qI,qJ,qK]<;>omega)|exact qL _)) only [go_sem,↓reduceIte,n0,reduceCtorEq,n1,n2,n3,n4,n5,i0,i1,i2,i3,i4,i5,i6,i7]) (hb.keep (hE2.keeps _)) (by omega) ?_
  intro v3 w3 ho3 hE3 hf3
  have hz3 := hE3.size
  have hb3 := hE3.blk_some hb2 id
  have hG3 : Glo ev w3 := hG.updS (hE2.trans hE3) id id
  obtain ⟨a3,c3,rfl,_⟩ := ho3.shape
  simp (maxSteps:=1000000)(disch:=(first|omega|(simp only [qI,qJ,qK]<;>omega)|exact qL _)) only [go_sem,↓reduceIte,n0,reduceCtorEq,n1,n2,n3,n4,n5,i0,i1,i2,i3,i4,i5,i6,i7]
  refine (ReadFromSyncGroupRequest_fn (d := d) (ok := fun b => b < w3.heap.size ∧ b ≠ w.heap.size) (ev := ev) (ver := ver) (by omega) (by omega) w3 _ _ hb3 ((Own.bytes ho3 hf3).weaken fun b hb hk => ⟨hb,by omega⟩) (fun b hb => hb) hG3 ⟨by omega,by omega⟩).mono ?_
  rintro r4 w4 ⟨_,h4,hU4⟩
  rw [hrd] at h4
  obtain ⟨rfl,cells,hb4,hR4⟩ := h4 (by simp)
  have hz4 := hU4.size
  have hE4 : Ext w w4 := (hE2.trans hE3).more hU4 fun b hb h => by omega
  have hR4' : RepS true (d + 2) fs_SyncGroupRequest (fun b => b < w4.heap.size) w4 (cnP (d + 2) ver (flexB 4 ver) fs_SyncGroupRequest t) cells := (RepS_lay true (d + 2) fs_SyncGroupRequest).weaken hR4 fun b hb _ => hb
  try simp (maxSteps:=1000000)(disch:=(first|omega|(simp only [qI,qJ,qK]<;>omega)|exact qL _)) only [go_sem,↓reduceIte,n0,reduceCtorEq,n1,n2,n3,n4,n5,i0,i1,i2,i3,i4,i5,i6,i7]
  repeat ((first | refine qA rfl ?_|refine qB ?_|refine qC rfl ?_|refine qD ?_|refine qE ?_|refine qF ?_|refine qG ?_|refine qH ?_);try simp (maxSteps:=1000000)(disch:=(first|omega|(simp only [qI,qJ,qK]<;>omega)|exact qL _)) only [go_sem,↓reduceIte,n0,reduceCtorEq,n1,n2,n3,n4,n5,i0,i1,i2,i3,i4,i5,i6,i7])
  refine wp_copyN ap_22_22 (ok := ok) (s := D) (v := .slice da _ dc) (by first | rfl | simp (maxSteps:=1000000)(disch:=(first|omega|(simp only [qI,qJ,qK]<;>omega)|exact qL _)) only [go_sem,↓reduceIte,n0,reduceCtorEq,n1,n2,n3,n4,n5,i0,i1,i2,i3,i4,i5,i6,i7]) (by first | rfl | simp (maxSteps:=1000000)(disch:=(first|omega|(simp only [qI,qJ,qK]<;>omega)|exact qL _)) only [go_sem,↓reduceIte,n0,reduceCtorEq,n1,n2,n3,n4,n5,i0,i1,i2,i3,i4,i5,i6,i7]) (hd.keep (hE4.keeps _)) (by omega) ?_
  intro v5 w5 ho5 hE5 hf5
  have hz5 := hE5.size
  have hb5 := hE5.blk_some hb4 id
  have hR5 := (RepS_lay true (d + 2) fs_SyncGroupRequest).keep hR4' (hE5.keeps _)
  obtain ⟨a5,c5,rfl,_⟩ := ho5.shape
  simp (maxSteps:=1000000)(disch:=(first|omega|(simp only [qI,qJ,qK]<;>omega)|exact qL _)) only [go_sem,↓reduceIte,n0,reduceCtorEq,n1,n2,n3,n4,n5,i0,i1,i2,i3,i4,i5,i6,i7]
  have hcl : (0 ≤ (ver : Int) ∧ (ver : Int) ≤ 2) ∨ (3 ≤ (ver : Int) ∧ (ver : Int) ≤ 3) ∨ (4 ≤ (ver : Int) ∧ (ver : Int) ≤ 4) ∨ (5 ≤ (ver : Int) ∧ (ver : Int) ≤ 5) := by omega
  rcases hcl with ⟨h1,h2⟩ | ⟨h1,h2⟩ | ⟨h1,h2⟩ | ⟨h1,h2⟩
  · have hfl : flexB 4 ver = false := by simp only [flexB,Bool.and_eq_false_iff,decide_eq_false_iff_not];omega
    rw [hfl] at hcn hR5 hl ⊢
    refine (appSyncGroupRequest_0 (d := d) (B := w.heap.size) h1 h2 _ cells _ D w5 (Own.mono ho5 (by omega)) (by omega) hb5 hR5 hcn.2 (fun b _ h1 h2 => by have := hf5 b h2;omega) (fun h => by have := hf5 _ h;omega) (by rw [hcn.1];omega)).mono ?_
    rintro r6 w6 h6
    repeat ((first | refine qA rfl ?_|refine qB ?_|refine qC rfl ?_|refine qD ?_|refine qE ?_|refine qF ?_|refine qG ?_|refine qH ?_);try simp (maxSteps:=1000000)(disch:=(first|omega|(simp only [qI,qJ,qK]<;>omega)|exact qL _)) only [go_sem,↓reduceIte,n0,reduceCtorEq,n1,n2,n3,n4,n5,i0,i1,i2,i3,i4,i5,i6,i7])
    refine ⟨by have := h6.own;rw [hcn.1] at this;exact ⟨_,rfl,this⟩,(hE4.trans hE5).more h6.upd fun b hb h => by have := hf5 b h;omega⟩
  · have hfl : flexB 4 ver = false := by simp only [flexB,Bool.and_eq_false_iff,decide_eq_false_iff_not];omega
    rw [hfl] at hcn hR5 hl ⊢
    refine (appSyncGroupRequest_1 (d := d) (B := w.heap.size) h1 h2 _ cells _ D w5 (Own.mono ho5 (by omega)) (by omega) hb5 hR5 hcn.2 (fun b _ h1 h2 => by have := hf5 b h2;omega) (fun h => by have := hf5 _ h;omega) (by rw [hcn.1];omega)).mono ?_
    rintro r6 w6 h6
    repeat ((first | refine qA rfl ?_|refine qB ?_|refine qC rfl ?_|refine qD ?_|refine qE ?_|refine qF ?_|refine qG ?_|refine qH ?_);try simp (maxSteps:=1000000)(disch:=(first|omega|(simp only [qI,qJ,qK]<;>omega)|exact qL _)) only [go_sem,↓reduceIte,n0,reduceCtorEq,n1,n2,n3,n4,n5,i0,i1,i2,i3,i4,i5,i6,i7])
    refine ⟨by have := h6.own;rw [hcn.1] at this;exact ⟨_,rfl,this⟩,(hE4.trans hE5).more h6.upd fun b hb h => by have := hf5 b h;omega⟩
  · have hfl : flexB 4 ver = true := by simp only [flexB,Bool.and_eq_true,decide_eq_true_eq];omega
    rw [hfl] at hcn hR5 hl ⊢
    refine (appSyncGroupRequest_2 (d := d) (B := w.heap.size) h1 h2 _ cells _ D w5 (Own.mono ho5 (by omega)) (by omega) hb5 hR5 hcn.2 (fun b _ h1 h2 => by have := hf5 b h2;omega) (fun h => by have := hf5 _ h;omega) (by rw [hcn.1];omega)).mono ?_
    rintro r6 w6 h6
    repeat ((first | refine qA rfl ?_|refine qB ?_|refine qC rfl ?_|refine qD ?_|refine qE ?_|refine qF ?_|refine qG ?_|refine qH ?_);try simp (maxSteps:=1000000)(disch:=(first|omega|(simp only [qI,qJ,qK]<;>omega)|exact qL _)) only [go_sem,↓reduceIte,n0,reduceCtorEq,n1,n2,n3,n4,n5,i0,i1,i2,i3,i4,i5,i6,i7])
    refine ⟨by have := h6.own;rw [hcn.1] at this;exact ⟨_,rfl,this⟩,(hE4.trans hE5).more h6.upd fun b hb h => by have := hf5 b h;omega⟩
  · have hfl : flexB 4 ver = true := by simp only [flexB,Bool.and_eq_true,decide_eq_true_eq];omega
    rw [hfl] at hcn hR5 hl ⊢
    refine (appSyncGroupRequest_3 (d := d) (B := w.heap.size) h1 h2 _ cells _ D w5 (Own.mono ho5 (by omega)) (by omega) hb5 hR5 hcn.2 (fun b _ h1 h2 => by have := hf5 b h2;omega) (fun h => by have := hf5 _ h;omega) (by rw [hcn.1];omega)).mono ?_
    rintro r6 w6 h6
    repeat ((first | refine qA rfl ?_|refine qB ?_|refine qC rfl ?_|refine qD ?_|refine qE ?_|refine qF ?_|refine qG ?_|refine qH ?_);try simp (maxSteps:=1000000)(disch:=(first|omega|(simp only [qI,qJ,qK]<;>omega)|exact qL _)) only [go_sem,↓reduceIte,n0,reduceCtorEq,n1,n2,n3,n4,n5,i0,i1,i2,i3,i4,i5,i6,i7])
    refine ⟨by have := h6.own;rw [hcn.1] at this;exact ⟨_,rfl,this⟩,(hE4.trans hE5).more h6.upd fun b hb h => by have := hf5 b h;omega⟩

end Ms

namespace Ms
open Go.World renaming size_alloc → qI
open Ms renaming size_wr → qJ,size_drew → qK,not_noB → qL
open W renaming seqR → qA,seq → qB,regR → qC,condK → qD,block → qE,skip → qF,ret → qG,exit → qH
open Nat renaming reduceEqDiff → n0,reduceAdd → n1,reduceMul → n2,reduceSub → n3,reduceLT → n4,reduceLeDiff → n5
open Int renaming reduceEq → i0,reduceLT → i1,reduceLE → i2,reduceNeg → i3,reduceAdd → i4,reduceSub → i5,reduceMul → i6,reduceToNat → i7
set_option maxRecDepth 8000
open Go Go.Proofs Go.Shelf
attribute [local congr] W_congr WPsq_congr WPp_congr optK_congr addrK_congr intK_congr boolK_congr sliceK_congr tupleK_congr funcK_congr Fn_congr rawK_congr takeK_congr stepK_congr convK_congr aggK_congr

set_option maxHeartbeats 2000000 in
theorem law_BehindSyncGroupRequest {ok : Blocks} {ev : Value} (n : Nat) (hn : n < 256) (dst : Value) (Dd : List UInt8) (t : Tree) (ct : List Value) (w : World) (hd : BytesV ok w dst Dd) (ht : TreeC ok w t ct) (hsm : Small 4611686018427387903 t) (hG : Glo ev w) (hDl : Dd.length ≤ 1048576) {N : Nat} (hN : N ≤ 1048576) (hsz : Sized N t) :
    Fn Tryz.prog 8 #[.int .u8 n,dst,.agg ct.toArray] w fun r w' => r = .bool true ∧ Ext w w' := by
  obtain ⟨vS,vL,vU,rfl,hn',hS,hL,hU⟩ := ht.inv
  obtain ⟨da,dc,rfl,_⟩ := hd.shape
  have f1 := hS.flat
  have f2 := SlR.flat hL
  have f3 := SlR.flat hU
  have hD1 : ¬ (2147483647 : Int) < (Dd.length : Int) := by omega
  have hE : Ext w (w.alloc (.cells #[.int .i64 t.n,vS,.bool t.null,vL,vU] 26)) := Upd.alloc (Upd.refl _ _) _
  refine fn_of_W Tryz.func8 rfl Tryz.results8 Tryz.ntmps8 rfl ?_
  repeat ((first | refine qA rfl ?_|refine qB ?_|refine qC rfl ?_|refine qD ?_|refine qE ?_|refine qF ?_|refine qG ?_|refine qH ?_);try simp (maxSteps:=1000000)(disch:=(first|omega|(simp only [qI,qJ,qK]<;>omega)|exact qL _)) only [go_sem,↓reduceIte,n0,reduceCtorEq,n1,n2,n3,n4,n5,i0,i1,i2,i3,i4,i5,i6,i7,f1,f2,f3,cellsAt_five,hD1])
  have hb : blk (w.alloc (.cells #[.int .i64 t.n,vS,.bool t.null,vL,vU] 26)) w.heap.size = some (#[.int .i64 t.n,vS,.bool t.null,vL,vU],26,(0,0)) := blk_alloc_new rfl
  generalize (w.alloc (.cells #[.int .i64 t.n,vS,.bool t.null,vL,vU] 26)) = w1 at *
  refine (zzFits1_fn (ok := ok) t _ w1 (ht.keep (hE.keeps _)) hsm).mono ?_
  rintro r2 w2 ⟨⟨bb,rfl⟩,hE2⟩
  cases bb with
  | false =>
    simp (maxSteps:=1000000)(disch:=(first|omega|(simp only [qI,qJ,qK]<;>omega)|exact qL _)) only [go_sem,↓reduceIte,n0,reduceCtorEq,n1,n2,n3,n4,n5,i0,i1,i2,i3,i4,i5,i6,i7]
    repeat ((first | refine qA rfl ?_|refine qB ?_|refine qC rfl ?_|refine qD ?_|refine qE ?_|refine qF ?_|refine qG ?_|refine qH ?_);try simp (maxSteps:=1000000)(disch:=(first|omega|(simp only [qI,qJ,qK]<;>omega)|exact qL _)) only [go_sem,↓reduceIte,n0,reduceCtorEq,n1,n2,n3,n4,n5,i0,i1,i2,i3,i4,i5,i6,i7])
    all_goals exact hE.trans hE2
  | true =>
    simp (maxSteps:=1000000)(disch:=(first|omega|(simp only [qI,qJ,qK]<;>omega)|exact qL _)) only [go_sem,↓reduceIte,n0,reduceCtorEq,n1,n2,n3,n4,n5,i0,i1,i2,i3,i4,i5,i6,i7]
    repeat ((first | refine qA rfl ?_|refine qB ?_|refine qC rfl ?_|refine qD ?_|refine qE ?_|refine qF ?_|refine qG ?_|refine qH ?_);try simp (maxSteps:=1000000)(disch:=(first|omega|(simp only [qI,qJ,qK]<;>omega)|exact qL _)) only [go_sem,↓reduceIte,n0,reduceCtorEq,n1,n2,n3,n4,n5,i0,i1,i2,i3,i4,i5,i6,i7])
    refine (MaxSyncGroupRequest_fn w2).mono ?_
    rintro _ w2m ⟨rfl,hE2m⟩
    repeat ((first | refine qA rfl ?_|refine qB ?_|refine qC rfl ?_|refine qD ?_|refine qE ?_|refine qF ?_|refine qG ?_|refine qH ?_);try simp (maxSteps:=1000000)(disch:=(first|omega|(simp only [qI,qJ,qK]<;>omega)|exact qL _)) only [go_sem,↓reduceIte,n0,reduceCtorEq,n1,n2,n3,n4,n5,i0,i1,i2,i3,i4,i5,i6,i7])
    refine (cSyncGroupRequest_fn w2m).mono ?_
    rintro r3 w3 ⟨⟨vs,rfl,hF0⟩,hE3⟩
    have hF : FldsV AnyB w3 vs fs_SyncGroupRequest := hF0.weaken fun _ _ _ => trivial
    have fF := SlR.flat hF
    simp (maxSteps:=1000000)(disch:=(first|omega|(simp only [qI,qJ,qK]<;>omega)|exact qL _)) only [go_sem,↓reduceIte,n0,reduceCtorEq,n1,n2,n3,n4,n5,i0,i1,i2,i3,i4,i5,i6,i7]
    refine (version_fn w3 n 5 hn (by decide)).mono ?_
    rintro _ w3v ⟨rfl,rfl⟩
    have hE03 : Ext w w3v := ((hE.trans hE2).trans hE2m).trans hE3
    have hb3 := hE3.blk_some (hE2m.blk_some (hE2.blk_some hb id) id) id
    have hE4 : Ext w3v (wr (w3v.alloc (.cells #[.slice none 0 0,.int .i64 0] 31)) w3v.heap.size 0 [vs,.int .i64 4]) := (Upd.alloc (Upd.refl _ _) _).wr _ _ (.inl (Nat.le_refl _))
    have hb4 : blk (wr (w3v.alloc (.cells #[.slice none 0 0,.int .i64 0] 31)) w3v.heap.size 0 [vs,.int .i64 4]) w3v.heap.size = some (#[vs,.int .i64 4],31,(0,0)) := by simp (maxSteps:=1000000)(disch:=(first|omega|(simp only [qI,qJ,qK]<;>omega)|exact qL _)) only [go_sem,↓reduceIte,n0,reduceCtorEq,n1,n2,n3,n4,n5,i0,i1,i2,i3,i4,i5,i6,i7]
    simp (maxSteps:=1000000)(disch:=(first|omega|(simp only [qI,qJ,qK]<;>omega)|exact qL _)) only [go_sem,↓reduceIte,n0,reduceCtorEq,n1,n2,n3,n4,n5,i0,i1,i2,i3,i4,i5,i6,i7,fF]
    generalize (wr (w3v.alloc (.cells #[.slice none 0 0,.int .i64 0] 31)) w3v.heap.size 0 [vs,.int .i64 4]) = w4 at *
    have hb34 := hE4.blk_some hb3 id
    have hv3 : n % 6 < 6 := Nat.mod_lt _ (by omega)
    generalize n % 6 = ver at *
    have hs1 := blk_lt hb4
    have hs2 := blk_lt hb34
    by_cases hD2 : (1000 : Int) < (Dd.length : Int)
    · repeat ((first | refine qA rfl ?_|refine qB ?_|refine qC rfl ?_|refine qD ?_|refine qE ?_|refine qF ?_|refine qG ?_|refine qH ?_);try simp (maxSteps:=1000000)(disch:=(first|omega|(simp only [qI,qJ,qK]<;>omega)|exact qL _)) only [go_sem,↓reduceIte,n0,reduceCtorEq,n1,n2,n3,n4,n5,i0,i1,i2,i3,i4,i5,i6,i7,hD2])
      all_goals exact hE03.trans hE4
    repeat ((first | refine qA rfl ?_|refine qB ?_|refine qC rfl ?_|refine qD ?_|refine qE ?_|refine qF ?_|refine qG ?_|refine qH ?_);try simp (maxSteps:=1000000)(disch:=(first|omega|(simp only [qI,qJ,qK]<;>omega)|exact qL _)) only [go_sem,↓reduceIte,n0,reduceCtorEq,n1,n2,n3,n4,n5,i0,i1,i2,i3,i4,i5,i6,i7,hD2,hb34,hb4,cellsAt_five,cellsAt_two])
    have hE04 : Ext w w4 := hE03.trans hE4
    have hokF : okF 2 fs_SyncGroupRequest = true := by decide
    have hokM : okM 2 fs_SyncGroupRequest = true := by decide
    have hokR : okR 2 ver (flexB 4 ver) fs_SyncGroupRequest = true := (by decide : ∀ v : Fin 6,okR 2 ((v.val : Nat) : Int) (flexB 4 ((v.val : Nat) : Int)) fs_SyncGroupRequest = true) ⟨ver,hv3⟩
    have hpl : (partS 3 fs_SyncGroupRequest ver (flexB 4 ver) t).length ≤ 2 ^ 40 := Nat.le_trans (partS_bound ver _ 2 fs_SyncGroupRequest N t hokM hsz) (Nat.le_trans (Nat.mul_le_mul_left _ (Nat.succ_le_succ hN)) (by decide))
    refine (Write_fn (ok := AnyB) (d := 2) fs_SyncGroupRequest 4 ver t vs _ w4 (hF.keep (Ext.keeps hE4 _)) hokF ((ht.weaken fun _ _ _ => trivial).keep (Ext.keeps hE04 _)) hsm hpl).mono ?_
    rintro r5 w5 ⟨ho5,hE5⟩
    have hE05 := hE04.trans hE5
    obtain ⟨a5,c5,rfl,_⟩ := ho5.shape
    repeat ((first | refine qA rfl ?_|refine qB ?_|refine qC rfl ?_|refine qD ?_|refine qE ?_|refine qF ?_|refine qG ?_|refine qH ?_);try simp (maxSteps:=1000000)(disch:=(first|omega|(simp only [qI,qJ,qK]<;>omega)|exact qL _)) only [go_sem,↓reduceIte,n0,reduceCtorEq,n1,n2,n3,n4,n5,i0,i1,i2,i3,i4,i5,i6,i7])
    have hrd := (rdP_part ver (flexB 4 ver) 2 fs_SyncGroupRequest N t hokR hsz).1 []
    rw [List.append_nil] at hrd
    refine (BehindSyncGroupRequest_fn (d := 1) (ok := AnyB) (ev := ev) ver (by omega) t _ _ Dd w5 ((hd.weaken (ok' := AnyB) fun _ _ _ => trivial).keep (Ext.keeps hE05 _)) (Own.bytes (ok := AnyB) ho5 fun _ _ => trivial) (hG.updS hE05 id id) hrd (partS_cn ver (flexB 4 ver) 2 fs_SyncGroupRequest t hokR) (by omega) hpl).mono ?_
    rintro _ w6 ⟨⟨v6,rfl,ho6⟩,hE6⟩
    have hE06 := hE05.trans hE6
    obtain ⟨a6,c6,rfl,_⟩ := ho6.shape
    try simp (maxSteps:=1000000)(disch:=(first|omega|(simp only [qI,qJ,qK]<;>omega)|exact qL _)) only [go_sem,↓reduceIte,n0,reduceCtorEq,n1,n2,n3,n4,n5,i0,i1,i2,i3,i4,i5,i6,i7]
    repeat ((first | refine qA rfl ?_|refine qB ?_|refine qC rfl ?_|refine qD ?_|refine qE ?_|refine qF ?_|refine qG ?_|refine qH ?_);try simp (maxSteps:=1000000)(disch:=(first|omega|(simp only [qI,qJ,qK]<;>omega)|exact qL _)) only [go_sem,↓reduceIte,n0,reduceCtorEq,n1,n2,n3,n4,n5,i0,i1,i2,i3,i4,i5,i6,i7])
    have hE7 : Ext w6 (w6.alloc (.cells #[] 5)) := Upd.alloc (Upd.refl _ _) _
    have ho7 : Own w6.heap.size (w6.alloc (.cells #[] 5)) 5 1 (.slice (some ⟨w6.heap.size,0,none⟩) 0 0) 0 [] := ⟨by simp,.inr ⟨_,0,[],(0,0),rfl,Nat.le_refl _,blk_alloc_new rfl,rfl,thaw_00 _ _,Nat.le_refl _⟩⟩
    have ha6 : blk (w6.alloc (.cells #[] 5)) w6.heap.size = some (#[],5,(0,0)) := blk_alloc_new rfl
    generalize w6.alloc (.cells #[] 5) = w7 at *
    have hz6 := hE6.size
    have hz7 := hE7.size
    have hz05 := hE05.size
    have hd7 : BytesV AnyB w7 _ Dd := BytesV.keep (hd.weaken (ok' := AnyB) fun _ _ _ => trivial) (Ext.keeps (hE06.trans hE7) _)
    have hb7 : BytesV (fun b => b < w6.heap.size) w7 _ (partS 3 fs_SyncGroupRequest ver (flexB 4 ver) t) := BytesV.keep ((Own.bytes (ok := AnyB) ho5 fun _ _ => trivial).weaken fun b hb _ => by omega) (Ext.keeps (hE6.trans hE7) _)
    have hr7 : BytesV (fun b => b < w6.heap.size) w7 _ (Dd ++ (partS 3 fs_SyncGroupRequest ver (flexB 4 ver) t)) := BytesV.keep ((Own.bytes (ok := AnyB) ho6 fun _ _ => trivial).weaken fun b hb _ => hb) (Ext.keeps hE7 _)
    refine wp_append ap_22_22 (B := w6.heap.size) (n := 0) (cs := []) (m := Dd.length) (news := Dd.map byteV) (v := .slice (some ⟨w6.heap.size,0,none⟩) 0 0) (u := .slice da Dd.length dc) (by first | rfl | simp (maxSteps:=1000000)(disch:=(first|omega|(simp only [qI,qJ,qK]<;>omega)|exact qL _)) only [go_sem,↓reduceIte,n0,reduceCtorEq,n1,n2,n3,n4,n5,i0,i1,i2,i3,i4,i5,i6,i7]) (by first | rfl | simp (maxSteps:=1000000)(disch:=(first|omega|(simp only [qI,qJ,qK]<;>omega)|exact qL _)) only [go_sem,↓reduceIte,n0,reduceCtorEq,n1,n2,n3,n4,n5,i0,i1,i2,i3,i4,i5,i6,i7]) ho7 rfl hd7.src (by omega) (by omega) ?_
    intro v8 w8 h8 hU8 hf8
    rw [Nat.zero_add,List.nil_append] at h8
    have hz8 := hU8.size
    have hn7 : ∀ b,ownB (.slice (some ⟨w6.heap.size,0,none⟩) 0 0) b → b = w6.heap.size := fun b h => ownB_row h
    have hE8 : Ext w w8 := (hE06.trans hE7).more hU8 fun b hb h => by have := hn7 b h;have := hE06.size;omega
    have hb8 := hb7.keep (hU8.keeps fun b _ hk h => by have := hn7 b h;omega)
    have hr8 := hr7.keep (hU8.keeps fun b _ hk h => by have := hn7 b h;omega)
    obtain ⟨a8,c8,rfl,_⟩ := h8.shape
    simp (maxSteps:=1000000)(disch:=(first|omega|(simp only [qI,qJ,qK]<;>omega)|exact qL _)) only [go_sem,↓reduceIte,n0,reduceCtorEq,n1,n2,n3,n4,n5,i0,i1,i2,i3,i4,i5,i6,i7]
    refine wp_append ap_22_22 (B := w6.heap.size) (n := Dd.length) (cs := Dd.map byteV) (m := (partS 3 fs_SyncGroupRequest ver (flexB 4 ver) t).length) (news := (partS 3 fs_SyncGroupRequest ver (flexB 4 ver) t).map byteV) (v := .slice a8 Dd.length c8) (u := .slice a5 _ c5) (by first | rfl | simp (maxSteps:=1000000)(disch:=(first|omega|(simp only [qI,qJ,qK]<;>omega)|exact qL _)) only [go_sem,↓reduceIte,n0,reduceCtorEq,n1,n2,n3,n4,n5,i0,i1,i2,i3,i4,i5,i6,i7]) (by first | rfl | simp (maxSteps:=1000000)(disch:=(first|omega|(simp only [qI,qJ,qK]<;>omega)|exact qL _)) only [go_sem,↓reduceIte,n0,reduceCtorEq,n1,n2,n3,n4,n5,i0,i1,i2,i3,i4,i5,i6,i7]) h8 (flat_bytes _) hb8.src (by omega) (by omega) ?_
    intro v9 w9 h9 hU9 hf9
    rw [← List.map_append,← List.length_append] at h9
    have hn8 : ∀ b,ownB (.slice a8 Dd.length c8) b → w6.heap.size ≤ b := fun b h => by
      rcases hf8 b h with h | h
      · have := hn7 b h;omega
      · omega
    have hE9 : Ext w w9 := hE8.more hU9 fun b hb h => by have := hn8 b h;have := hE06.size;omega
    have hr9 := hr8.keep (hU9.keeps fun b _ hk h => by have := hn8 b h;omega)
    obtain ⟨a9,c9,rfl,_⟩ := h9.shape
    simp (maxSteps:=1000000)(disch:=(first|omega|(simp only [qI,qJ,qK]<;>omega)|exact qL _)) only [go_sem,↓reduceIte,n0,reduceCtorEq,n1,n2,n3,n4,n5,i0,i1,i2,i3,i4,i5,i6,i7]
    refine (Same_fn (ok := AnyB) (Dd ++ (partS 3 fs_SyncGroupRequest ver (flexB 4 ver) t)) (Dd ++ (partS 3 fs_SyncGroupRequest ver (flexB 4 ver) t)) _ _ w9 (hr9.weaken fun _ _ _ => trivial) (Own.bytes h9 fun _ _ => trivial) (by rw [List.length_append];omega)).mono ?_
    rintro _ w10 ⟨rfl,hE10⟩
    try simp (maxSteps:=1000000)(disch:=(first|omega|(simp only [qI,qJ,qK]<;>omega)|exact qL _)) only [go_sem,↓reduceIte,n0,reduceCtorEq,n1,n2,n3,n4,n5,i0,i1,i2,i3,i4,i5,i6,i7]
    repeat ((first | refine qA rfl ?_|refine qB ?_|refine qC rfl ?_|refine qD ?_|refine qE ?_|refine qF ?_|refine qG ?_|refine qH ?_);try simp (maxSteps:=1000000)(disch:=(first|omega|(simp only [qI,qJ,qK]<;>omega)|exact qL _)) only [go_sem,↓reduceIte,n0,reduceCtorEq,n1,n2,n3,n4,n5,i0,i1,i2,i3,i4,i5,i6,i7])
    all_goals exact hE9.trans hE10

end Ms

