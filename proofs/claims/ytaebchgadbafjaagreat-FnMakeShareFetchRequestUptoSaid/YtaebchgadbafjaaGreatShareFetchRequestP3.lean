/- A part of the proof: see the last text. -/
import Derived.Test.YtaebchgadbafjaaGreatC08
import Derived.Test.YtaebchgadbafjaaGreatShareFetchRequestP0
import Derived.Test.YtaebchgadbafjaaGreatShareFetchRequestP1
set_option linter.unusedSimpArgs false
set_option linter.unusedVariables false
namespace Ms
open Go.World renaming size_alloc → qI
open Ms renaming size_wr → qJ,size_drew → qK,not_noB → qL
open W renaming seqR → qA,seq → qB,regR → qC,condK → qD,block → qE,skip → qF,ret → qG,exit → qH
open Nat renaming reduceEqDiff → n0,reduceAdd → n1,reduceMul → n2,reduceSub → n3,reduceLT → n4,reduceLeDiff → n5
open Int renaming reduceEq → i0,reduceLT → i1,reduceLE → i2,reduceNeg → i3,reduceAdd → i4,reduceSub → i5,reduceMul → i6,reduceToNat → i7
set_option maxRecDepth 8000
open Go Go.Proofs Go.Shelf
attribute [local congr] W_congr WPsq_congr WPp_congr optK_congr addrK_congr intK_congr boolK_congr sliceK_congr tupleK_congr funcK_congr Fn_congr rawK_congr takeK_congr stepK_congr convK_congr aggK_congr

set_option maxHeartbeats 4000000 in
theorem appShareFetchRequest_0 {d B : Nat} {okM : Blocks} {ver : Int} (hlo : 0 ≤ ver) (hhi : ver ≤ 0) (t : Tree) (cells : List Value) (v : Value) (s : List UInt8) (w : World) {vb : Nat} (ho : OwnBy 5 B w v s) (hB : B ≤ w.heap.size) (hvb : blk w vb = some ((.int .i16 ver :: cells).toArray,60,(0,0)))
    (hR : RepS true (d + 4) fs_ShareFetchRequest okM w t cells) (hfit : FitW ver (d + 4) fs_ShareFetchRequest t) (hd : ∀ b,b < w.heap.size → okM b → ¬ ownB v b) (hdv : ¬ ownB v vb) (hlen : s.length + (partS (d + 4) fs_ShareFetchRequest ver true t).length ≤ 2 ^ 41) :
    Fn Tryz.prog 20 #[.pointer (some ⟨vb,0,none⟩),v] w fun r w' => AppR 5 B w v s (partS (d + 4) fs_ShareFetchRequest ver true t) r w' := by
  obtain ⟨⟨g_0,g_1,g_2,g_3,g_4,g_5,g_6,g_7,g_8,g_9,g_10,g_11,-⟩,hfu⟩ := hfit
  replace g_0 : hasS fShareFetchRequest_0 ver = true → FitWF (FitW ver (d + 3)) ver fShareFetchRequest_0 (t.at 0) := g_0
  have hh_0 : hasS fShareFetchRequest_0 ver = true := hasS_t (by show (0 : Int) ≤ ver;omega) (by show (-1 : Int) < 0 ∨ ver ≤ (-1 : Int);omega)
  replace g_0 := g_0 hh_0
  replace g_1 : hasS fShareFetchRequest_1 ver = true → FitWF (FitW ver (d + 3)) ver fShareFetchRequest_1 (t.at 1) := g_1
  have hh_1 : hasS fShareFetchRequest_1 ver = true := hasS_t (by show (0 : Int) ≤ ver;omega) (by show (-1 : Int) < 0 ∨ ver ≤ (-1 : Int);omega)
  replace g_1 := g_1 hh_1
  replace g_2 : hasS fShareFetchRequest_2 ver = true → FitWF (FitW ver (d + 3)) ver fShareFetchRequest_2 (t.at 2) := g_2
  have hh_2 : hasS fShareFetchRequest_2 ver = true := hasS_t (by show (0 : Int) ≤ ver;omega) (by show (-1 : Int) < 0 ∨ ver ≤ (-1 : Int);omega)
  replace g_2 := g_2 hh_2
  replace g_3 : hasS fShareFetchRequest_3 ver = true → FitWF (FitW ver (d + 3)) ver fShareFetchRequest_3 (t.at 3) := g_3
  have hh_3 : hasS fShareFetchRequest_3 ver = true := hasS_t (by show (0 : Int) ≤ ver;omega) (by show (-1 : Int) < 0 ∨ ver ≤ (-1 : Int);omega)
  replace g_3 := g_3 hh_3
  replace g_4 : hasS fShareFetchRequest_4 ver = true → FitWF (FitW ver (d + 3)) ver fShareFetchRequest_4 (t.at 4) := g_4
  have hh_4 : hasS fShareFetchRequest_4 ver = true := hasS_t (by show (0 : Int) ≤ ver;omega) (by show (-1 : Int) < 0 ∨ ver ≤ (-1 : Int);omega)
  replace g_4 := g_4 hh_4
  replace g_5 : hasS fShareFetchRequest_5 ver = true → FitWF (FitW ver (d + 3)) ver fShareFetchRequest_5 (t.at 5) := g_5
  have hh_5 : hasS fShareFetchRequest_5 ver = true := hasS_t (by show (0 : Int) ≤ ver;omega) (by show (-1 : Int) < 0 ∨ ver ≤ (-1 : Int);omega)
  replace g_5 := g_5 hh_5
  replace g_6 : hasS fShareFetchRequest_6 ver = true → FitWF (FitW ver (d + 3)) ver fShareFetchRequest_6 (t.at 6) := g_6
  have hh_6 : hasS fShareFetchRequest_6 ver = false := hasS_f (by show ver < 1 ∨ (0 ≤ (-1 : Int) ∧ (-1 : Int) < ver);omega)
  clear g_6
  replace g_7 : hasS fShareFetchRequest_7 ver = true → FitWF (FitW ver (d + 3)) ver fShareFetchRequest_7 (t.at 7) := g_7
  have hh_7 : hasS fShareFetchRequest_7 ver = false := hasS_f (by show ver < 1 ∨ (0 ≤ (-1 : Int) ∧ (-1 : Int) < ver);omega)
  clear g_7
  replace g_8 : hasS fShareFetchRequest_8 ver = true → FitWF (FitW ver (d + 3)) ver fShareFetchRequest_8 (t.at 8) := g_8
  have hh_8 : hasS fShareFetchRequest_8 ver = false := hasS_f (by show ver < 2 ∨ (0 ≤ (-1 : Int) ∧ (-1 : Int) < ver);omega)
  clear g_8
  replace g_9 : hasS fShareFetchRequest_9 ver = true → FitWF (FitW ver (d + 3)) ver fShareFetchRequest_9 (t.at 9) := g_9
  have hh_9 : hasS fShareFetchRequest_9 ver = false := hasS_f (by show ver < 2 ∨ (0 ≤ (-1 : Int) ∧ (-1 : Int) < ver);omega)
  clear g_9
  replace g_10 : hasS fShareFetchRequest_10 ver = true → FitWF (FitW ver (d + 3)) ver fShareFetchRequest_10 (t.at 10) := g_10
  have hh_10 : hasS fShareFetchRequest_10 ver = true := hasS_t (by show (0 : Int) ≤ ver;omega) (by show (-1 : Int) < 0 ∨ ver ≤ (-1 : Int);omega)
  replace g_10 := g_10 hh_10
  replace g_11 : hasS fShareFetchRequest_11 ver = true → FitWF (FitW ver (d + 3)) ver fShareFetchRequest_11 (t.at 11) := g_11
  have hh_11 : hasS fShareFetchRequest_11 ver = true := hasS_t (by show (0 : Int) ≤ ver;omega) (by show (-1 : Int) < 0 ∨ ver ≤ (-1 : Int);omega)
  replace g_11 := g_11 hh_11
  obtain ⟨cs,q,hcs,hL,hT⟩ := hR.inv
  obtain ⟨c_0,e_0,rfl,h_0,c_1,e_1,rfl,h_1,c_2,e_2,rfl,h_2,c_3,e_3,rfl,h_3,c_4,e_4,rfl,h_4,c_5,e_5,rfl,h_5,c_6,e_6,rfl,h_6,c_7,e_7,rfl,h_7,c_8,e_8,rfl,h_8,c_9,e_9,rfl,h_9,c_10,e_10,rfl,h_10,c_11,e_11,rfl,h_11,rfl⟩ := hL
  replace h_0 : RepF (RepS true (d + 3)) (szS true (d + 3)) fShareFetchRequest_0 okM w (t.at 0) c_0 := h_0
  replace h_1 : RepF (RepS true (d + 3)) (szS true (d + 3)) fShareFetchRequest_1 okM w (t.at 1) c_1 := h_1
  replace h_2 : RepF (RepS true (d + 3)) (szS true (d + 3)) fShareFetchRequest_2 okM w (t.at 2) c_2 := h_2
  replace h_3 : RepF (RepS true (d + 3)) (szS true (d + 3)) fShareFetchRequest_3 okM w (t.at 3) c_3 := h_3
  replace h_4 : RepF (RepS true (d + 3)) (szS true (d + 3)) fShareFetchRequest_4 okM w (t.at 4) c_4 := h_4
  replace h_5 : RepF (RepS true (d + 3)) (szS true (d + 3)) fShareFetchRequest_5 okM w (t.at 5) c_5 := h_5
  replace h_6 : RepF (RepS true (d + 3)) (szS true (d + 3)) fShareFetchRequest_6 okM w (t.at 6) c_6 := h_6
  replace h_7 : RepF (RepS true (d + 3)) (szS true (d + 3)) fShareFetchRequest_7 okM w (t.at 7) c_7 := h_7
  replace h_8 : RepF (RepS true (d + 3)) (szS true (d + 3)) fShareFetchRequest_8 okM w (t.at 8) c_8 := h_8
  replace h_9 : RepF (RepS true (d + 3)) (szS true (d + 3)) fShareFetchRequest_9 okM w (t.at 9) c_9 := h_9
  replace h_10 : RepF (RepS true (d + 3)) (szS true (d + 3)) fShareFetchRequest_10 okM w (t.at 10) c_10 := h_10
  replace h_11 : RepF (RepS true (d + 3)) (szS true (d + 3)) fShareFetchRequest_11 okM w (t.at 11) c_11 := h_11
  obtain ⟨p_0,rfl,hp_0⟩ := (RepF_ptr rfl (by decide)).1 h_0
  obtain ⟨p_1,rfl,hp_1⟩ := (RepF_ptr rfl (by decide)).1 h_1
  obtain rfl := (RepF_num (by decide)).1 h_2
  obtain rfl := (RepF_num (by decide)).1 h_3
  obtain rfl := (RepF_num (by decide)).1 h_4
  obtain rfl := (RepF_num (by decide)).1 h_5
  obtain rfl := (RepF_num (by decide)).1 h_6
  obtain rfl := (RepF_num (by decide)).1 h_7
  obtain rfl := (RepF_num (by decide)).1 h_8
  obtain rfl := (RepF_num (by decide)).1 h_9
  obtain ⟨p_10,rfl,hs_10⟩ := RepF_listW g_10 rfl (by decide) h_10
  obtain ⟨ab_10,ac_10,rfl,_⟩ := SlR.shape hs_10
  have hll_10 := (g_10.list rfl).1
  obtain ⟨p_11,rfl,hs_11⟩ := RepF_listW g_11 rfl (by decide) h_11
  obtain ⟨ab_11,ac_11,rfl,_⟩ := SlR.shape hs_11
  have hll_11 := (g_11.list rfl).1
  obtain ⟨qm,rfl⟩ := hT.shape
  have hv : blk w vb = some (#[.int .i16 ver,p_0,p_1,.int .i32 (IntKind.i32.wrap (t.at 2).n),.int .i32 (IntKind.i32.wrap (t.at 3).n),.int .i32 (IntKind.i32.wrap (t.at 4).n),.int .i32 (IntKind.i32.wrap (t.at 5).n),.int .i32 (IntKind.i32.wrap (t.at 6).n),.int .i32 (IntKind.i32.wrap (t.at 7).n),.int .i8 (IntKind.i8.wrap (t.at 8).n),.bool (decide ((t.at 9).n % 2 = 1)),.slice ab_10 (t.at 10).l.length ac_10,.slice ab_11 (t.at 11).l.length ac_11,.map qm],60,(0,0)) := by rw [hvb,hcs];rfl
  clear hvb hcs
  obtain ⟨X_0,hXX_0⟩ : ∃ X,X = if (t.at 0).null = true then [0] else uvarS ((t.at 0).s.length + 1) ++ (t.at 0).s := ⟨_,rfl⟩
  obtain ⟨X_1,hXX_1⟩ : ∃ X,X = if (t.at 1).null = true then [0] else uvarS ((t.at 1).s.length + 1) ++ (t.at 1).s := ⟨_,rfl⟩
  obtain ⟨X_2,hXX_2⟩ : ∃ X,X = fixedS (t.at 2).n 4 := ⟨_,rfl⟩
  obtain ⟨X_3,hXX_3⟩ : ∃ X,X = fixedS (t.at 3).n 4 := ⟨_,rfl⟩
  obtain ⟨X_4,hXX_4⟩ : ∃ X,X = fixedS (t.at 4).n 4 := ⟨_,rfl⟩
  obtain ⟨X_5,hXX_5⟩ : ∃ X,X = fixedS (t.at 5).n 4 := ⟨_,rfl⟩
  obtain ⟨XL_10,hXL_10⟩ : ∃ X,X = uvarS ((t.at 10).l.length + 1) := ⟨_,rfl⟩
  obtain ⟨XE_10,hXE_10⟩ : ∃ X,X = (t.at 10).l.flatMap (fun x => partS (d + 3) fs_X3 ver true x) := ⟨_,rfl⟩
  obtain ⟨XL_11,hXL_11⟩ : ∃ X,X = uvarS ((t.at 11).l.length + 1) := ⟨_,rfl⟩
  obtain ⟨XE_11,hXE_11⟩ : ∃ X,X = (t.at 11).l.flatMap (fun x => partS (d + 3) fs_X1 ver true x) := ⟨_,rfl⟩
  obtain ⟨XU,hXU⟩ : ∃ X,X = uvarS t.u.length := ⟨_,rfl⟩
  obtain ⟨XT,hXT⟩ : ∃ X,X = t.u.flatMap oneTag := ⟨_,rfl⟩
  have hP : partS (d + 4) fs_ShareFetchRequest ver true t = (X_0 ++ (X_1 ++ (X_2 ++ (X_3 ++ (X_4 ++ (X_5 ++ ((XL_10 ++ XE_10) ++ ((XL_11 ++ XE_11) ++ [])))))))) ++ (XU ++ XT) := by rw [hXU,hXT];exact partS_yes rfl hfu (plainL_has (by decide) hh_0 ((fieldS_ptr_t g_0 rfl (by decide)).trans hXX_0.symm) (plainL_has (by decide) hh_1 ((fieldS_ptr_t g_1 rfl (by decide)).trans hXX_1.symm) (plainL_has (by decide) hh_2 ((fieldS_num 3 rfl (by decide)).trans hXX_2.symm) (plainL_has (by decide) hh_3 ((fieldS_num 3 rfl (by decide)).trans hXX_3.symm) (plainL_has (by decide) hh_4 ((fieldS_num 3 rfl (by decide)).trans hXX_4.symm) (plainL_has (by decide) hh_5 ((fieldS_num 3 rfl (by decide)).trans hXX_5.symm) (plainL_not hh_6 (plainL_not hh_7 (plainL_not hh_8 (plainL_not hh_9 (plainL_has (by decide) hh_10 ((fieldS_list_t (g := (fun x => partS (d + 3) fs_X3 ver true x)) g_10 rfl (by decide) (fun x _ => valueS_part)).trans (by rw [hXL_10,hXE_10])) (plainL_has (by decide) hh_11 ((fieldS_list_t (g := (fun x => partS (d + 3) fs_X1 ver true x)) g_11 rfl (by decide) (fun x _ => valueS_part)).trans (by rw [hXL_11,hXE_11])) rfl))))))))))))
  rw [hP] at hlen
  simp only [List.length_append,List.length_nil] at hlen
  have hdK : ∀ {r : Value} {w' : World} {add : List UInt8},AppR 5 B w v s add r w' → ∀ b,b < w'.heap.size → OkS okM w.heap.size b → ¬ ownB r b := fun h b _ hk ho => (h.frame b ho).elim (hd b hk.2 hk.1) (fun h => by have := hk.2;omega)
  have ownK : ∀ {r : Value} {w' : World} {add : List UInt8} {b : Nat},AppR 5 B w v s add r w' → b < w.heap.size → ¬ ownB v b → ¬ ownB r b := fun h hb hn ho => (h.frame _ ho).elim hn (fun h => by omega)
  have ha0 : AppR 5 B w v s [] v w := AppR.refl ho
  obtain ⟨w0,hw0⟩ : ∃ w0,w0 = w := ⟨_,rfl⟩
  have hB0 := hB
  have hv_0 := hv
  refine fn_of_W Tryz.func20 rfl Tryz.results20 Tryz.ntmps20 rfl ?_
  repeat ((first | refine qA rfl ?_|refine qB ?_|refine qC rfl ?_|refine qD ?_|refine qE ?_|refine qF ?_|refine qG ?_|refine qH ?_);try simp (maxSteps:=1000000)(disch:=(first|omega|(simp only [qI,qJ,qK]<;>omega)|exact qL _)) only [go_sem,↓reduceIte,n0,reduceCtorEq,n1,n2,n3,n4,n5,i0,i1,i2,i3,i4,i5,i6,i7,hv_0])
  refine (AppendCompactNullableString_fn (ok := okM) _ _ _ ha0.own hB0 _ (t.at 0).null (t.at 0).s (hp_0.keep (ha0.upd.keeps hd)) (g_0.text (.inl rfl)) (by simp only [List.length_append,List.length_nil];omega)).mono ?_
  rintro r1 w1 hc1
  rw [← hXX_0] at hc1
  have ha1 := ha0.trans hc1
  have hB1 : B ≤ w1.heap.size := Nat.le_trans hB ha1.upd.size
  have hv_1 := ha1.upd.blk_some hv hdv
  repeat ((first | refine qA rfl ?_|refine qB ?_|refine qC rfl ?_|refine qD ?_|refine qE ?_|refine qF ?_|refine qG ?_|refine qH ?_);try simp (maxSteps:=1000000)(disch:=(first|omega|(simp only [qI,qJ,qK]<;>omega)|exact qL _)) only [go_sem,↓reduceIte,n0,reduceCtorEq,n1,n2,n3,n4,n5,i0,i1,i2,i3,i4,i5,i6,i7,hv_1])
  refine (AppendCompactNullableString_fn (ok := okM) _ _ _ ha1.own hB1 _ (t.at 1).null (t.at 1).s (hp_1.keep (ha1.upd.keeps hd)) (g_1.text (.inl rfl)) (by simp only [List.length_append,List.length_nil];omega)).mono ?_
  rintro r2 w2 hc2
  rw [← hXX_1] at hc2
  have ha2 := ha1.trans hc2
  have hB2 : B ≤ w2.heap.size := Nat.le_trans hB ha2.upd.size
  have hv_2 := ha2.upd.blk_some hv hdv
  repeat ((first | refine qA rfl ?_|refine qB ?_|refine qC rfl ?_|refine qD ?_|refine qE ?_|refine qF ?_|refine qG ?_|refine qH ?_);try simp (maxSteps:=1000000)(disch:=(first|omega|(simp only [qI,qJ,qK]<;>omega)|exact qL _)) only [go_sem,↓reduceIte,n0,reduceCtorEq,n1,n2,n3,n4,n5,i0,i1,i2,i3,i4,i5,i6,i7,hv_2])
  refine (AppendInt32_fn _ _ _ ha2.own hB2 _ (by simp only [List.length_append,List.length_nil];omega)).mono ?_
  rintro r3 w3 hc3
  rw [wrap32,← hXX_2] at hc3
  have ha3 := ha2.trans hc3
  have hB3 : B ≤ w3.heap.size := Nat.le_trans hB ha3.upd.size
  have hv_3 := ha3.upd.blk_some hv hdv
  repeat ((first | refine qA rfl ?_|refine qB ?_|refine qC rfl ?_|refine qD ?_|refine qE ?_|refine qF ?_|refine qG ?_|refine qH ?_);try simp (maxSteps:=1000000)(disch:=(first|omega|(simp only [qI,qJ,qK]<;>omega)|exact qL _)) only [go_sem,↓reduceIte,n0,reduceCtorEq,n1,n2,n3,n4,n5,i0,i1,i2,i3,i4,i5,i6,i7,hv_3])
  refine (AppendInt32_fn _ _ _ ha3.own hB3 _ (by simp only [List.length_append,List.length_nil];omega)).mono ?_
  rintro r4 w4 hc4
  rw [wrap32,← hXX_3] at hc4
  have ha4 := ha3.trans hc4
  have hB4 : B ≤ w4.heap.size := Nat.le_trans hB ha4.upd.size
  have hv_4 := ha4.upd.blk_some hv hdv
  repeat ((first | refine qA rfl ?_|refine qB ?_|refine qC rfl ?_|refine qD ?_|refine qE ?_|refine qF ?_|refine qG ?_|refine qH ?_);try simp (maxSteps:=1000000)(disch:=(first|omega|(simp only [qI,qJ,qK]<;>omega)|exact qL _)) only [go_sem,↓reduceIte,n0,reduceCtorEq,n1,n2,n3,n4,n5,i0,i1,i2,i3,i4,i5,i6,i7,hv_4])
  refine (AppendInt32_fn _ _ _ ha4.own hB4 _ (by simp only [List.length_append,List.length_nil];omega)).mono ?_
  rintro r5 w5 hc5
  rw [wrap32,← hXX_4] at hc5
  have ha5 := ha4.trans hc5
  have hB5 : B ≤ w5.heap.size := Nat.le_trans hB ha5.upd.size
  have hv_5 := ha5.upd.blk_some hv hdv
  repeat ((first | refine qA rfl ?_|refine qB ?_|refine qC rfl ?_|refine qD ?_|refine qE ?_|refine qF ?_|refine qG ?_|refine qH ?_);try simp (maxSteps:=1000000)(disch:=(first|omega|(simp only [qI,qJ,qK]<;>omega)|exact qL _)) only [go_sem,↓reduceIte,n0,reduceCtorEq,n1,n2,n3,n4,n5,i0,i1,i2,i3,i4,i5,i6,i7,hv_5])
  refine (AppendInt32_fn _ _ _ ha5.own hB5 _ (by simp only [List.length_append,List.length_nil];omega)).mono ?_
  rintro r6 w6 hc6
  rw [wrap32,← hXX_5] at hc6
  have ha6 := ha5.trans hc6
  have hB6 : B ≤ w6.heap.size := Nat.le_trans hB ha6.upd.size
  have hv_6 := ha6.upd.blk_some hv hdv
  repeat ((first | refine qA rfl ?_|refine qB ?_|refine qC rfl ?_|refine qD ?_|refine qE ?_|refine qF ?_|refine qG ?_|refine qH ?_);try simp (maxSteps:=1000000)(disch:=(first|omega|(simp only [qI,qJ,qK]<;>omega)|exact qL _)) only [go_sem,↓reduceIte,n0,reduceCtorEq,n1,n2,n3,n4,n5,i0,i1,i2,i3,i4,i5,i6,i7,hv_6])
  refine (AppendCompactArrayLen_fn _ _ _ ha6.own hB6 (t.at 10).l.length hll_10 (by simp only [List.length_append,List.length_nil];omega)).mono ?_
  rintro r7 w7 hc7
  rw [← hXL_10] at hc7
  have ha7 := ha6.trans hc7
  have hB7 : B ≤ w7.heap.size := Nat.le_trans hB ha7.upd.size
  have hv_7 := ha7.upd.blk_some hv hdv
  repeat ((first | refine qA rfl ?_|refine qB ?_|refine qC rfl ?_|refine qD ?_|refine qE ?_|refine qF ?_|refine qG ?_|refine qH ?_);try simp (maxSteps:=1000000)(disch:=(first|omega|(simp only [qI,qJ,qK]<;>omega)|exact qL _)) only [go_sem,↓reduceIte,n0,reduceCtorEq,n1,n2,n3,n4,n5,i0,i1,i2,i3,i4,i5,i6,i7,hv_7])
  have hadd1 := ha7
  refine W.exitJ 0 (fun ρ w' => ∃ r,ρ 1 = r ∧ ρ 0 = .pointer (some ⟨vb,0,none⟩) ∧ ρ 5 = .int .i16 ver ∧ ρ 6 = .bool true ∧ AppR 5 B w v s (([] ++ X_0 ++ X_1 ++ X_2 ++ X_3 ++ X_4 ++ X_5 ++ XL_10) ++ XE_10) r w')
    (W.loop (fun ρ w' => ∃ (j : Nat) (r : Value),j ≤ (t.at 10).l.length ∧ ρ 150 = .int .i64 j ∧ ρ 149 = .int .i64 (t.at 10).l.length ∧ ρ 17 = .slice ab_10 (t.at 10).l.length ac_10 ∧ ρ 1 = r ∧ ρ 0 = .pointer (some ⟨vb,0,none⟩) ∧ ρ 5 = .int .i16 ver ∧ ρ 6 = .bool true ∧ AppR 5 B w v s (([] ++ X_0 ++ X_1 ++ X_2 ++ X_3 ++ X_4 ++ X_5 ++ XL_10) ++ ((t.at 10).l.take j).flatMap (fun x => partS (d + 3) fs_X3 ver true x)) r w')
      (fun ρ _ => (t.at 10).l.length - (RowKit.intOf (ρ 150)).toNat) ?_ ?_) ?_
  · refine ⟨0,_,Nat.zero_le _,?_,?_,?_,?_,?_,?_,?_,ha7.eqs (by rw [List.take_zero,List.flatMap_nil,List.append_nil])⟩ <;> simp (maxSteps:=1000000)(disch:=(first|omega|(simp only [qI,qJ,qK]<;>omega)|exact qL _)) only [go_sem,↓reduceIte,n0,reduceCtorEq,n1,n2,n3,n4,n5,i0,i1,i2,i3,i4,i5,i6,i7]
    all_goals rfl
  · rintro ρ w8 ⟨j1,r8,hj1,hI1,hN1,hS1,hr1_1,hr1_0,hr1_5,hr1_6,ha8⟩
    have hB8 : B ≤ w8.heap.size := Nat.le_trans hB ha8.upd.size
    have hv_8 := ha8.upd.blk_some hv hdv
    by_cases hlt1 : j1 < (t.at 10).l.length
    · obtain ⟨_,b1,o1,x1,ce1,hb1,hok1,hx1,hbl1,hxs1,hxe1,hq1,hRe1⟩ := SlR.get (size := 18) (by decide) hs_10 hlt1
      subst hb1
      have hcat1 : (t.at 10).l.take (j1 + 1) = (t.at 10).l.take j1 ++ [(t.at 10).l[j1]] := List.take_succ_eq_append_getElem hlt1
      have htl1 := take_flatMap_len (t.at 10).l (fun x => partS (d + 3) fs_X3 ver true x) (j1 + 1)
      rw [← hXE_10,hcat1,List.flatMap_append,List.flatMap_cons,List.flatMap_nil,List.append_nil] at htl1
      have hge1 := (g_10.list rfl).2 _ (List.getElem_mem hlt1)
      generalize (t.at 10).l[j1] = y1 at *
      have hnx1 := hd b1 hbl1 hok1
      obtain ⟨T1,hTT1⟩ : ∃ T,T = ((t.at 10).l.take j1).flatMap (fun x => partS (d + 3) fs_X3 ver true x) := ⟨_,rfl⟩
      rw [← hTT1] at ha8 htl1
      have hx1_8 := ha8.upd.blk_some hx1 hnx1
      replace hRe1 : RepS true (d + 3) fs_X3 okM w y1 ce1 := Rep1_part.1 hRe1
      have hfe1 : FitW ver (d + 3) fs_X3 y1 := hge1.2 rfl
      obtain ⟨⟨ge1_0,ge1_1,-⟩,hfue1⟩ := hfe1
      replace ge1_0 : hasS fX3_0 ver = true → FitWF (FitW ver (d + 2)) ver fX3_0 (y1.at 0) := ge1_0
      have hhe1_0 : hasS fX3_0 ver = true := hasS_t (by show (0 : Int) ≤ ver;omega) (by show (-1 : Int) < 0 ∨ ver ≤ (-1 : Int);omega)
      replace ge1_0 := ge1_0 hhe1_0
      replace ge1_1 : hasS fX3_1 ver = true → FitWF (FitW ver (d + 2)) ver fX3_1 (y1.at 1) := ge1_1
      have hhe1_1 : hasS fX3_1 ver = true := hasS_t (by show (0 : Int) ≤ ver;omega) (by show (-1 : Int) < 0 ∨ ver ≤ (-1 : Int);omega)
      replace ge1_1 := ge1_1 hhe1_1
      obtain ⟨cse1,qe1,hcse1,hLe1,hTe1⟩ := hRe1.inv
      obtain ⟨ce1_0,ee1_0,rfl,he1_0,ce1_1,ee1_1,rfl,he1_1,rfl⟩ := hLe1
      replace he1_0 : RepF (RepS true (d + 2)) (szS true (d + 2)) fX3_0 okM w (y1.at 0) ce1_0 := he1_0
      replace he1_1 : RepF (RepS true (d + 2)) (szS true (d + 2)) fX3_1 okM w (y1.at 1) ce1_1 := he1_1
      obtain rfl := (RepF_uuid rfl).1 he1_0
      have hx16e1_0 : ((uuidS (y1.at 0).s).map byteV).length = 16 := by rw [List.length_map,uuidS_len]
      have hfxe1_0 := flat_bytes (uuidS (y1.at 0).s)
      generalize hXe1_0 : (uuidS (y1.at 0).s).map byteV = Ze1_0 at *
      obtain ⟨ze1_0_0,ze1_0_1,ze1_0_2,ze1_0_3,ze1_0_4,ze1_0_5,ze1_0_6,ze1_0_7,ze1_0_8,ze1_0_9,ze1_0_10,ze1_0_11,ze1_0_12,ze1_0_13,ze1_0_14,ze1_0_15,rfl⟩ := list16 hx16e1_0
      simp only [List.all_cons,List.all_nil,Bool.and_true,Bool.and_eq_true] at hfxe1_0
      obtain ⟨fze1_0_0,fze1_0_1,fze1_0_2,fze1_0_3,fze1_0_4,fze1_0_5,fze1_0_6,fze1_0_7,fze1_0_8,fze1_0_9,fze1_0_10,fze1_0_11,fze1_0_12,fze1_0_13,fze1_0_14,fze1_0_15⟩ := hfxe1_0
      obtain ⟨pe1_1,rfl,hse1_1⟩ := RepF_listW ge1_1 rfl (by decide) he1_1
      obtain ⟨abe1_1,ace1_1,rfl,_⟩ := SlR.shape hse1_1
      have hlle1_1 := (ge1_1.list rfl).1
      obtain ⟨qme1,rfl⟩ := hTe1.shape
      subst hcse1
      have hq1_0 : x1.1[o1 + j1 * 18]? = some (ze1_0_0) := hq1 0 (by decide)
      have hq1_1 : x1.1[o1 + (j1 * 18 + 1)]? = some (ze1_0_1) := hq1 1 (by decide)
      have hq1_2 : x1.1[o1 + (j1 * 18 + 2)]? = some (ze1_0_2) := hq1 2 (by decide)
      have hq1_3 : x1.1[o1 + (j1 * 18 + 3)]? = some (ze1_0_3) := hq1 3 (by decide)
      have hq1_4 : x1.1[o1 + (j1 * 18 + 4)]? = some (ze1_0_4) := hq1 4 (by decide)
      have hq1_5 : x1.1[o1 + (j1 * 18 + 5)]? = some (ze1_0_5) := hq1 5 (by decide)
      have hq1_6 : x1.1[o1 + (j1 * 18 + 6)]? = some (ze1_0_6) := hq1 6 (by decide)
      have hq1_7 : x1.1[o1 + (j1 * 18 + 7)]? = some (ze1_0_7) := hq1 7 (by decide)
      have hq1_8 : x1.1[o1 + (j1 * 18 + 8)]? = some (ze1_0_8) := hq1 8 (by decide)
      have hq1_9 : x1.1[o1 + (j1 * 18 + 9)]? = some (ze1_0_9) := hq1 9 (by decide)
      have hq1_10 : x1.1[o1 + (j1 * 18 + 10)]? = some (ze1_0_10) := hq1 10 (by decide)
      have hq1_11 : x1.1[o1 + (j1 * 18 + 11)]? = some (ze1_0_11) := hq1 11 (by decide)
      have hq1_12 : x1.1[o1 + (j1 * 18 + 12)]? = some (ze1_0_12) := hq1 12 (by decide)
      have hq1_13 : x1.1[o1 + (j1 * 18 + 13)]? = some (ze1_0_13) := hq1 13 (by decide)
      have hq1_14 : x1.1[o1 + (j1 * 18 + 14)]? = some (ze1_0_14) := hq1 14 (by decide)
      have hq1_15 : x1.1[o1 + (j1 * 18 + 15)]? = some (ze1_0_15) := hq1 15 (by decide)
      have hq1_16 : x1.1[o1 + (j1 * 18 + 16)]? = some (.slice abe1_1 (y1.at 1).l.length ace1_1) := hq1 16 (by decide)
      have hq1_17 : x1.1[o1 + (j1 * 18 + 17)]? = some (.map qme1) := hq1 17 (by decide)
      have hxu1_0 : cellsAt x1.1 (o1 + j1 * 18) 16 = some (.agg #[ze1_0_0,ze1_0_1,ze1_0_2,ze1_0_3,ze1_0_4,ze1_0_5,ze1_0_6,ze1_0_7,ze1_0_8,ze1_0_9,ze1_0_10,ze1_0_11,ze1_0_12,ze1_0_13,ze1_0_14,ze1_0_15]) := by
        refine cellsAt_of (l := [ze1_0_0,ze1_0_1,ze1_0_2,ze1_0_3,ze1_0_4,ze1_0_5,ze1_0_6,ze1_0_7,ze1_0_8,ze1_0_9,ze1_0_10,ze1_0_11,ze1_0_12,ze1_0_13,ze1_0_14,ze1_0_15]) (fun j hj => ?_) rfl (by omega)
        rw [show o1 + j1 * 18 + j = o1 + (j1 * 18 + (0 + j)) by omega]
        exact (hq1 (0 + j) (by omega)).trans (get_mid (pre := []) (xs := [ze1_0_0,ze1_0_1,ze1_0_2,ze1_0_3,ze1_0_4,ze1_0_5,ze1_0_6,ze1_0_7,ze1_0_8,ze1_0_9,ze1_0_10,ze1_0_11,ze1_0_12,ze1_0_13,ze1_0_14,ze1_0_15]) (post := [.slice abe1_1 (y1.at 1).l.length ace1_1,.map qme1]) hj)
      obtain ⟨Xe1_0,hXXe1_0⟩ : ∃ X,X = uuidS (y1.at 0).s := ⟨_,rfl⟩
      obtain ⟨XLe1_1,hXLe1_1⟩ : ∃ X,X = uvarS ((y1.at 1).l.length + 1) := ⟨_,rfl⟩
      obtain ⟨XEe1_1,hXEe1_1⟩ : ∃ X,X = (y1.at 1).l.flatMap (fun x => partS (d + 2) fs_X2 ver true x) := ⟨_,rfl⟩
      obtain ⟨XUe1,hXUe1⟩ : ∃ X,X = uvarS y1.u.length := ⟨_,rfl⟩
      obtain ⟨XTe1,hXTe1⟩ : ∃ X,X = y1.u.flatMap oneTag := ⟨_,rfl⟩
      have hPe1 : partS (d + 3) fs_X3 ver true y1 = (Xe1_0 ++ ((XLe1_1 ++ XEe1_1) ++ [])) ++ (XUe1 ++ XTe1) := by rw [hXUe1,hXTe1];exact partS_yes rfl hfue1 (plainL_has (by decide) hhe1_0 ((fieldS_uuid rfl).trans hXXe1_0.symm) (plainL_has (by decide) hhe1_1 ((fieldS_list_t (g := (fun x => partS (d + 2) fs_X2 ver true x)) ge1_1 rfl (by decide) (fun x _ => valueS_part)).trans (by rw [hXLe1_1,hXEe1_1])) rfl))
      rw [hPe1] at htl1
      simp only [List.length_append,List.length_nil] at htl1
      have hcze1_0 : cellsAt #[ze1_0_0,ze1_0_1,ze1_0_2,ze1_0_3,ze1_0_4,ze1_0_5,ze1_0_6,ze1_0_7,ze1_0_8,ze1_0_9,ze1_0_10,ze1_0_11,ze1_0_12,ze1_0_13,ze1_0_14,ze1_0_15] 0 16 = some (.agg #[ze1_0_0,ze1_0_1,ze1_0_2,ze1_0_3,ze1_0_4,ze1_0_5,ze1_0_6,ze1_0_7,ze1_0_8,ze1_0_9,ze1_0_10,ze1_0_11,ze1_0_12,ze1_0_13,ze1_0_14,ze1_0_15]) := cellsAt_full rfl
      repeat ((first | refine qA rfl ?_|refine qB ?_|refine qC rfl ?_|refine qD ?_|refine qE ?_|refine qF ?_|refine qG ?_|refine qH ?_);try simp (maxSteps:=1000000)(disch:=(first|omega|(simp only [qI,qJ,qK]<;>omega)|exact qL _)) only [go_sem,↓reduceIte,n0,reduceCtorEq,n1,n2,n3,n4,n5,i0,i1,i2,i3,i4,i5,i6,i7,hv_8,hx1_8,Int.toNat_natCast,Nat.mul_one,hq1_0,hq1_1,hq1_2,hq1_3,hq1_4,hq1_5,hq1_6,hq1_7,hq1_8,hq1_9,hq1_10,hq1_11,hq1_12,hq1_13,hq1_14,hq1_15,hq1_16,hq1_17,fze1_0_0,fze1_0_1,fze1_0_2,fze1_0_3,fze1_0_4,fze1_0_5,fze1_0_6,fze1_0_7,fze1_0_8,fze1_0_9,fze1_0_10,fze1_0_11,fze1_0_12,fze1_0_13,fze1_0_14,fze1_0_15,hxu1_0,hr1_1,hr1_0,hr1_5,hr1_6,hI1,hN1,hS1,hcze1_0])
      generalize hwu9 : wr (w8.alloc (.cells #[.int .u8 0,.int .u8 0,.int .u8 0,.int .u8 0,.int .u8 0,.int .u8 0,.int .u8 0,.int .u8 0,.int .u8 0,.int .u8 0,.int .u8 0,.int .u8 0,.int .u8 0,.int .u8 0,.int .u8 0,.int .u8 0] 75)) w8.heap.size 0 [ze1_0_0,ze1_0_1,ze1_0_2,ze1_0_3,ze1_0_4,ze1_0_5,ze1_0_6,ze1_0_7,ze1_0_8,ze1_0_9,ze1_0_10,ze1_0_11,ze1_0_12,ze1_0_13,ze1_0_14,ze1_0_15] = w9
      have hEu9 : Ext w8 w9 := by rw [← hwu9];exact (Upd.alloc (Upd.refl _ _) _).wr _ _ (.inl (Nat.le_refl _))
      clear hwu9
      have ha9 := ha8.then hEu9
      have hB9 : B ≤ w9.heap.size := Nat.le_trans hB ha9.upd.size
      have hv_9 := ha9.upd.blk_some hv hdv
      have hx1_9 := ha9.upd.blk_some hx1 hnx1
      have hu9 := AppendUuid_fn r8 _ w9 ha9.own hB9 (uuidS (y1.at 0).s) (uuidS_len _) (by simp only [List.length_append,List.length_nil];omega)
      rw [hXe1_0,← hXXe1_0] at hu9
      refine (hu9).mono ?_
      rintro r10 w10 hc10
      have ha10 := ha9.trans hc10
      have hB10 : B ≤ w10.heap.size := Nat.le_trans hB ha10.upd.size
      have hv_10 := ha10.upd.blk_some hv hdv
      have hx1_10 := ha10.upd.blk_some hx1 hnx1
      repeat ((first | refine qA rfl ?_|refine qB ?_|refine qC rfl ?_|refine qD ?_|refine qE ?_|refine qF ?_|refine qG ?_|refine qH ?_);try simp (maxSteps:=1000000)(disch:=(first|omega|(simp only [qI,qJ,qK]<;>omega)|exact qL _)) only [go_sem,↓reduceIte,n0,reduceCtorEq,n1,n2,n3,n4,n5,i0,i1,i2,i3,i4,i5,i6,i7,hv_10,hx1_10,Int.toNat_natCast,Nat.mul_one,hq1_0,hq1_1,hq1_2,hq1_3,hq1_4,hq1_5,hq1_6,hq1_7,hq1_8,hq1_9,hq1_10,hq1_11,hq1_12,hq1_13,hq1_14,hq1_15,hq1_16,hq1_17,fze1_0_0,fze1_0_1,fze1_0_2,fze1_0_3,fze1_0_4,fze1_0_5,fze1_0_6,fze1_0_7,fze1_0_8,fze1_0_9,fze1_0_10,fze1_0_11,fze1_0_12,fze1_0_13,fze1_0_14,fze1_0_15,hxu1_0,hr1_1,hr1_0,hr1_5,hr1_6,hI1,hN1,hS1])
      refine (AppendCompactArrayLen_fn _ _ _ ha10.own hB10 (y1.at 1).l.length hlle1_1 (by simp only [List.length_append,List.length_nil];omega)).mono ?_
      rintro r11 w11 hc11
      rw [← hXLe1_1] at hc11
      have ha11 := ha10.trans hc11
      have hB11 : B ≤ w11.heap.size := Nat.le_trans hB ha11.upd.size
      have hv_11 := ha11.upd.blk_some hv hdv
      have hx1_11 := ha11.upd.blk_some hx1 hnx1
      repeat ((first | refine qA rfl ?_|refine qB ?_|refine qC rfl ?_|refine qD ?_|refine qE ?_|refine qF ?_|refine qG ?_|refine qH ?_);try simp (maxSteps:=1000000)(disch:=(first|omega|(simp only [qI,qJ,qK]<;>omega)|exact qL _)) only [go_sem,↓reduceIte,n0,reduceCtorEq,n1,n2,n3,n4,n5,i0,i1,i2,i3,i4,i5,i6,i7,hv_11,hx1_11,Int.toNat_natCast,Nat.mul_one,hq1_0,hq1_1,hq1_2,hq1_3,hq1_4,hq1_5,hq1_6,hq1_7,hq1_8,hq1_9,hq1_10,hq1_11,hq1_12,hq1_13,hq1_14,hq1_15,hq1_16,hq1_17,fze1_0_0,fze1_0_1,fze1_0_2,fze1_0_3,fze1_0_4,fze1_0_5,fze1_0_6,fze1_0_7,fze1_0_8,fze1_0_9,fze1_0_10,fze1_0_11,fze1_0_12,fze1_0_13,fze1_0_14,fze1_0_15,hxu1_0,hr1_1,hr1_0,hr1_5,hr1_6,hI1,hN1,hS1])
      have hadd2 := ha11
      refine W.exitJ 2 (fun ρ w' => ∃ r,ρ 1 = r ∧ ρ 0 = .pointer (some ⟨vb,0,none⟩) ∧ ρ 5 = .int .i16 ver ∧ ρ 6 = .bool true ∧ ρ 150 = .int .i64 j1 ∧ ρ 149 = .int .i64 (t.at 10).l.length ∧ ρ 17 = .slice (some ⟨b1,o1,none⟩) (t.at 10).l.length ac_10 ∧ ρ 19 = .pointer (some ⟨b1,o1 + j1 * 18,none⟩) ∧ AppR 5 B w v s (([] ++ X_0 ++ X_1 ++ X_2 ++ X_3 ++ X_4 ++ X_5 ++ XL_10 ++ T1 ++ Xe1_0 ++ XLe1_1) ++ XEe1_1) r w')
        (W.loop (fun ρ w' => ∃ (j : Nat) (r : Value),j ≤ (y1.at 1).l.length ∧ ρ 178 = .int .i64 j ∧ ρ 177 = .int .i64 (y1.at 1).l.length ∧ ρ 21 = .slice abe1_1 (y1.at 1).l.length ace1_1 ∧ ρ 1 = r ∧ ρ 0 = .pointer (some ⟨vb,0,none⟩) ∧ ρ 5 = .int .i16 ver ∧ ρ 6 = .bool true ∧ ρ 150 = .int .i64 j1 ∧ ρ 149 = .int .i64 (t.at 10).l.length ∧ ρ 17 = .slice (some ⟨b1,o1,none⟩) (t.at 10).l.length ac_10 ∧ ρ 19 = .pointer (some ⟨b1,o1 + j1 * 18,none⟩) ∧ AppR 5 B w v s (([] ++ X_0 ++ X_1 ++ X_2 ++ X_3 ++ X_4 ++ X_5 ++ XL_10 ++ T1 ++ Xe1_0 ++ XLe1_1) ++ ((y1.at 1).l.take j).flatMap (fun x => partS (d + 2) fs_X2 ver true x)) r w')
          (fun ρ _ => (y1.at 1).l.length - (RowKit.intOf (ρ 178)).toNat) ?_ ?_) ?_
      · refine ⟨0,_,Nat.zero_le _,?_,?_,?_,?_,?_,?_,?_,?_,?_,?_,?_,ha11.eqs (by rw [List.take_zero,List.flatMap_nil,List.append_nil])⟩ <;> simp (maxSteps:=1000000)(disch:=(first|omega|(simp only [qI,qJ,qK]<;>omega)|exact qL _)) only [go_sem,↓reduceIte,n0,reduceCtorEq,n1,n2,n3,n4,n5,i0,i1,i2,i3,i4,i5,i6,i7,hr1_1,hr1_0,hr1_5,hr1_6,hI1,hN1,hS1]
        all_goals rfl
      · rintro ρ w12 ⟨j2,r12,hj2,hI2,hN2,hS2,hr1_2,hr2_0,hr2_5,hr2_6,hr2_150,hr2_149,hr2_17,hr2_19,ha12⟩
        have hB12 : B ≤ w12.heap.size := Nat.le_trans hB ha12.upd.size
        have hv_12 := ha12.upd.blk_some hv hdv
        have hx1_12 := ha12.upd.blk_some hx1 hnx1
        by_cases hlt2 : j2 < (y1.at 1).l.length
        · obtain ⟨_,b2,o2,x2,ce2,hb2,hok2,hx2,hbl2,hxs2,hxe2,hq2,hRe2⟩ := SlR.get (size := 4) (by decide) hse1_1 hlt2
          subst hb2
          have hcat2 : (y1.at 1).l.take (j2 + 1) = (y1.at 1).l.take j2 ++ [(y1.at 1).l[j2]] := List.take_succ_eq_append_getElem hlt2
          have htl2 := take_flatMap_len (y1.at 1).l (fun x => partS (d + 2) fs_X2 ver true x) (j2 + 1)
          rw [← hXEe1_1,hcat2,List.flatMap_append,List.flatMap_cons,List.flatMap_nil,List.append_nil] at htl2
          have hge2 := (ge1_1.list rfl).2 _ (List.getElem_mem hlt2)
          generalize (y1.at 1).l[j2] = y2 at *
          have hnx2 := hd b2 hbl2 hok2
          obtain ⟨T2,hTT2⟩ : ∃ T,T = ((y1.at 1).l.take j2).flatMap (fun x => partS (d + 2) fs_X2 ver true x) := ⟨_,rfl⟩
          rw [← hTT2] at ha12 htl2
          have hx2_12 := ha12.upd.blk_some hx2 hnx2
          replace hRe2 : RepS true (d + 2) fs_X2 okM w y2 ce2 := Rep1_part.1 hRe2
          have hfe2 : FitW ver (d + 2) fs_X2 y2 := hge2.2 rfl
          obtain ⟨⟨ge2_0,ge2_1,ge2_2,-⟩,hfue2⟩ := hfe2
          replace ge2_0 : hasS fX2_0 ver = true → FitWF (FitW ver (d + 1)) ver fX2_0 (y2.at 0) := ge2_0
          have hhe2_0 : hasS fX2_0 ver = true := hasS_t (by show (0 : Int) ≤ ver;omega) (by show (-1 : Int) < 0 ∨ ver ≤ (-1 : Int);omega)
          replace ge2_0 := ge2_0 hhe2_0
          replace ge2_1 : hasS fX2_1 ver = true → FitWF (FitW ver (d + 1)) ver fX2_1 (y2.at 1) := ge2_1
          have hhe2_1 : hasS fX2_1 ver = true := hasS_t (by show (0 : Int) ≤ ver;omega) (by show (0 : Int) < 0 ∨ ver ≤ (0 : Int);omega)
          replace ge2_1 := ge2_1 hhe2_1
          replace ge2_2 : hasS fX2_2 ver = true → FitWF (FitW ver (d + 1)) ver fX2_2 (y2.at 2) := ge2_2
          have hhe2_2 : hasS fX2_2 ver = true := hasS_t (by show (0 : Int) ≤ ver;omega) (by show (-1 : Int) < 0 ∨ ver ≤ (-1 : Int);omega)
          replace ge2_2 := ge2_2 hhe2_2
          obtain ⟨cse2,qe2,hcse2,hLe2,hTe2⟩ := hRe2.inv
          obtain ⟨ce2_0,ee2_0,rfl,he2_0,ce2_1,ee2_1,rfl,he2_1,ce2_2,ee2_2,rfl,he2_2,rfl⟩ := hLe2
          replace he2_0 : RepF (RepS true (d + 1)) (szS true (d + 1)) fX2_0 okM w (y2.at 0) ce2_0 := he2_0
          replace he2_1 : RepF (RepS true (d + 1)) (szS true (d + 1)) fX2_1 okM w (y2.at 1) ce2_1 := he2_1
          replace he2_2 : RepF (RepS true (d + 1)) (szS true (d + 1)) fX2_2 okM w (y2.at 2) ce2_2 := he2_2
          obtain rfl := (RepF_num (by decide)).1 he2_0
          obtain rfl := (RepF_num (by decide)).1 he2_1
          obtain ⟨pe2_2,rfl,hse2_2⟩ := RepF_listW ge2_2 rfl (by decide) he2_2
          obtain ⟨abe2_2,ace2_2,rfl,_⟩ := SlR.shape hse2_2
          have hlle2_2 := (ge2_2.list rfl).1
          obtain ⟨qme2,rfl⟩ := hTe2.shape
          subst hcse2
          have hq2_0 : x2.1[o2 + j2 * 4]? = some (.int .i32 (IntKind.i32.wrap (y2.at 0).n)) := hq2 0 (by decide)
          have hq2_1 : x2.1[o2 + (j2 * 4 + 1)]? = some (.int .i32 (IntKind.i32.wrap (y2.at 1).n)) := hq2 1 (by decide)
          have hq2_2 : x2.1[o2 + (j2 * 4 + 2)]? = some (.slice abe2_2 (y2.at 2).l.length ace2_2) := hq2 2 (by decide)
          have hq2_3 : x2.1[o2 + (j2 * 4 + 3)]? = some (.map qme2) := hq2 3 (by decide)
          obtain ⟨Xe2_0,hXXe2_0⟩ : ∃ X,X = fixedS (y2.at 0).n 4 := ⟨_,rfl⟩
          obtain ⟨Xe2_1,hXXe2_1⟩ : ∃ X,X = fixedS (y2.at 1).n 4 := ⟨_,rfl⟩
          obtain ⟨XLe2_2,hXLe2_2⟩ : ∃ X,X = uvarS ((y2.at 2).l.length + 1) := ⟨_,rfl⟩
          obtain ⟨XEe2_2,hXEe2_2⟩ : ∃ X,X = (y2.at 2).l.flatMap (fun x => partS (d + 1) fs_X0 ver true x) := ⟨_,rfl⟩
          obtain ⟨XUe2,hXUe2⟩ : ∃ X,X = uvarS y2.u.length := ⟨_,rfl⟩
          obtain ⟨XTe2,hXTe2⟩ : ∃ X,X = y2.u.flatMap oneTag := ⟨_,rfl⟩
          have hPe2 : partS (d + 2) fs_X2 ver true y2 = (Xe2_0 ++ (Xe2_1 ++ ((XLe2_2 ++ XEe2_2) ++ []))) ++ (XUe2 ++ XTe2) := by rw [hXUe2,hXTe2];exact partS_yes rfl hfue2 (plainL_has (by decide) hhe2_0 ((fieldS_num 3 rfl (by decide)).trans hXXe2_0.symm) (plainL_has (by decide) hhe2_1 ((fieldS_num 3 rfl (by decide)).trans hXXe2_1.symm) (plainL_has (by decide) hhe2_2 ((fieldS_list_t (g := (fun x => partS (d + 1) fs_X0 ver true x)) ge2_2 rfl (by decide) (fun x _ => valueS_part)).trans (by rw [hXLe2_2,hXEe2_2])) rfl)))
          rw [hPe2] at htl2
          simp only [List.length_append,List.length_nil] at htl2
          repeat ((first | refine qA rfl ?_|refine qB ?_|refine qC rfl ?_|refine qD ?_|refine qE ?_|refine qF ?_|refine qG ?_|refine qH ?_);try simp (maxSteps:=1000000)(disch:=(first|omega|(simp only [qI,qJ,qK]<;>omega)|exact qL _)) only [go_sem,↓reduceIte,n0,reduceCtorEq,n1,n2,n3,n4,n5,i0,i1,i2,i3,i4,i5,i6,i7,hv_12,hx1_12,hx2_12,Int.toNat_natCast,Nat.mul_one,hq1_0,hq1_1,hq1_2,hq1_3,hq1_4,hq1_5,hq1_6,hq1_7,hq1_8,hq1_9,hq1_10,hq1_11,hq1_12,hq1_13,hq1_14,hq1_15,hq1_16,hq1_17,fze1_0_0,fze1_0_1,fze1_0_2,fze1_0_3,fze1_0_4,fze1_0_5,fze1_0_6,fze1_0_7,fze1_0_8,fze1_0_9,fze1_0_10,fze1_0_11,fze1_0_12,fze1_0_13,fze1_0_14,fze1_0_15,hxu1_0,hq2_0,hq2_1,hq2_2,hq2_3,hr1_2,hr2_0,hr2_5,hr2_6,hr2_150,hr2_149,hr2_17,hr2_19,hI2,hN2,hS2])
          refine (AppendInt32_fn _ _ _ ha12.own hB12 _ (by simp only [List.length_append,List.length_nil];omega)).mono ?_
          rintro r13 w13 hc13
          rw [wrap32,← hXXe2_0] at hc13
          have ha13 := ha12.trans hc13
          have hB13 : B ≤ w13.heap.size := Nat.le_trans hB ha13.upd.size
          have hv_13 := ha13.upd.blk_some hv hdv
          have hx1_13 := ha13.upd.blk_some hx1 hnx1
          have hx2_13 := ha13.upd.blk_some hx2 hnx2
          repeat ((first | refine qA rfl ?_|refine qB ?_|refine qC rfl ?_|refine qD ?_|refine qE ?_|refine qF ?_|refine qG ?_|refine qH ?_);try simp (maxSteps:=1000000)(disch:=(first|omega|(simp only [qI,qJ,qK]<;>omega)|exact qL _)) only [go_sem,↓reduceIte,n0,reduceCtorEq,n1,n2,n3,n4,n5,i0,i1,i2,i3,i4,i5,i6,i7,hv_13,hx1_13,hx2_13,Int.toNat_natCast,Nat.mul_one,hq1_0,hq1_1,hq1_2,hq1_3,hq1_4,hq1_5,hq1_6,hq1_7,hq1_8,hq1_9,hq1_10,hq1_11,hq1_12,hq1_13,hq1_14,hq1_15,hq1_16,hq1_17,fze1_0_0,fze1_0_1,fze1_0_2,fze1_0_3,fze1_0_4,fze1_0_5,fze1_0_6,fze1_0_7,fze1_0_8,fze1_0_9,fze1_0_10,fze1_0_11,fze1_0_12,fze1_0_13,fze1_0_14,fze1_0_15,hxu1_0,hq2_0,hq2_1,hq2_2,hq2_3,hr1_2,hr2_0,hr2_5,hr2_6,hr2_150,hr2_149,hr2_17,hr2_19,hI2,hN2,hS2])
          refine (AppendInt32_fn _ _ _ ha13.own hB13 _ (by simp only [List.length_append,List.length_nil];omega)).mono ?_
          rintro r14 w14 hc14
          rw [wrap32,← hXXe2_1] at hc14
          have ha14 := ha13.trans hc14
          have hB14 : B ≤ w14.heap.size := Nat.le_trans hB ha14.upd.size
          have hv_14 := ha14.upd.blk_some hv hdv
          have hx1_14 := ha14.upd.blk_some hx1 hnx1
          have hx2_14 := ha14.upd.blk_some hx2 hnx2
          repeat ((first | refine qA rfl ?_|refine qB ?_|refine qC rfl ?_|refine qD ?_|refine qE ?_|refine qF ?_|refine qG ?_|refine qH ?_);try simp (maxSteps:=1000000)(disch:=(first|omega|(simp only [qI,qJ,qK]<;>omega)|exact qL _)) only [go_sem,↓reduceIte,n0,reduceCtorEq,n1,n2,n3,n4,n5,i0,i1,i2,i3,i4,i5,i6,i7,hv_14,hx1_14,hx2_14,Int.toNat_natCast,Nat.mul_one,hq1_0,hq1_1,hq1_2,hq1_3,hq1_4,hq1_5,hq1_6,hq1_7,hq1_8,hq1_9,hq1_10,hq1_11,hq1_12,hq1_13,hq1_14,hq1_15,hq1_16,hq1_17,fze1_0_0,fze1_0_1,fze1_0_2,fze1_0_3,fze1_0_4,fze1_0_5,fze1_0_6,fze1_0_7,fze1_0_8,fze1_0_9,fze1_0_10,fze1_0_11,fze1_0_12,fze1_0_13,fze1_0_14,fze1_0_15,hxu1_0,hq2_0,hq2_1,hq2_2,hq2_3,hr1_2,hr2_0,hr2_5,hr2_6,hr2_150,hr2_149,hr2_17,hr2_19,hI2,hN2,hS2])
          refine (AppendCompactArrayLen_fn _ _ _ ha14.own hB14 (y2.at 2).l.length hlle2_2 (by simp only [List.length_append,List.length_nil];omega)).mono ?_
          rintro r15 w15 hc15
          rw [← hXLe2_2] at hc15
          have ha15 := ha14.trans hc15
          have hB15 : B ≤ w15.heap.size := Nat.le_trans hB ha15.upd.size
          have hv_15 := ha15.upd.blk_some hv hdv
          have hx1_15 := ha15.upd.blk_some hx1 hnx1
          have hx2_15 := ha15.upd.blk_some hx2 hnx2
          repeat ((first | refine qA rfl ?_|refine qB ?_|refine qC rfl ?_|refine qD ?_|refine qE ?_|refine qF ?_|refine qG ?_|refine qH ?_);try simp (maxSteps:=1000000)(disch:=(first|omega|(simp only [qI,qJ,qK]<;>omega)|exact qL _)) only [go_sem,↓reduceIte,n0,reduceCtorEq,n1,n2,n3,n4,n5,i0,i1,i2,i3,i4,i5,i6,i7,hv_15,hx1_15,hx2_15,Int.toNat_natCast,Nat.mul_one,hq1_0,hq1_1,hq1_2,hq1_3,hq1_4,hq1_5,hq1_6,hq1_7,hq1_8,hq1_9,hq1_10,hq1_11,hq1_12,hq1_13,hq1_14,hq1_15,hq1_16,hq1_17,fze1_0_0,fze1_0_1,fze1_0_2,fze1_0_3,fze1_0_4,fze1_0_5,fze1_0_6,fze1_0_7,fze1_0_8,fze1_0_9,fze1_0_10,fze1_0_11,fze1_0_12,fze1_0_13,fze1_0_14,fze1_0_15,hxu1_0,hq2_0,hq2_1,hq2_2,hq2_3,hr1_2,hr2_0,hr2_5,hr2_6,hr2_150,hr2_149,hr2_17,hr2_19,hI2,hN2,hS2])
          have hadd3 := ha15
          refine W.exitJ 4 (fun ρ w' => ∃ r,ρ 1 = r ∧ ρ 0 = .pointer (some ⟨vb,0,none⟩) ∧ ρ 5 = .int .i16 ver ∧ ρ 6 = .bool true ∧ ρ 150 = .int .i64 j1 ∧ ρ 149 = .int .i64 (t.at 10).l.length ∧ ρ 17 = .slice (some ⟨b1,o1,none⟩) (t.at 10).l.length ac_10 ∧ ρ 19 = .pointer (some ⟨b1,o1 + j1 * 18,none⟩) ∧ ρ 178 = .int .i64 j2 ∧ ρ 177 = .int .i64 (y1.at 1).l.length ∧ ρ 21 = .slice (some ⟨b2,o2,none⟩) (y1.at 1).l.length ace1_1 ∧ ρ 23 = .pointer (some ⟨b2,o2 + j2 * 4,none⟩) ∧ AppR 5 B w v s (([] ++ X_0 ++ X_1 ++ X_2 ++ X_3 ++ X_4 ++ X_5 ++ XL_10 ++ T1 ++ Xe1_0 ++ XLe1_1 ++ T2 ++ Xe2_0 ++ Xe2_1 ++ XLe2_2) ++ XEe2_2) r w')
            (W.loop (fun ρ w' => ∃ (j : Nat) (r : Value),j ≤ (y2.at 2).l.length ∧ ρ 219 = .int .i64 j ∧ ρ 218 = .int .i64 (y2.at 2).l.length ∧ ρ 26 = .slice abe2_2 (y2.at 2).l.length ace2_2 ∧ ρ 1 = r ∧ ρ 0 = .pointer (some ⟨vb,0,none⟩) ∧ ρ 5 = .int .i16 ver ∧ ρ 6 = .bool true ∧ ρ 150 = .int .i64 j1 ∧ ρ 149 = .int .i64 (t.at 10).l.length ∧ ρ 17 = .slice (some ⟨b1,o1,none⟩) (t.at 10).l.length ac_10 ∧ ρ 19 = .pointer (some ⟨b1,o1 + j1 * 18,none⟩) ∧ ρ 178 = .int .i64 j2 ∧ ρ 177 = .int .i64 (y1.at 1).l.length ∧ ρ 21 = .slice (some ⟨b2,o2,none⟩) (y1.at 1).l.length ace1_1 ∧ ρ 23 = .pointer (some ⟨b2,o2 + j2 * 4,none⟩) ∧ AppR 5 B w v s (([] ++ X_0 ++ X_1 ++ X_2 ++ X_3 ++ X_4 ++ X_5 ++ XL_10 ++ T1 ++ Xe1_0 ++ XLe1_1 ++ T2 ++ Xe2_0 ++ Xe2_1 ++ XLe2_2) ++ ((y2.at 2).l.take j).flatMap (fun x => partS (d + 1) fs_X0 ver true x)) r w')
              (fun ρ _ => (y2.at 2).l.length - (RowKit.intOf (ρ 219)).toNat) ?_ ?_) ?_
          · refine ⟨0,_,Nat.zero_le _,?_,?_,?_,?_,?_,?_,?_,?_,?_,?_,?_,?_,?_,?_,?_,ha15.eqs (by rw [List.take_zero,List.flatMap_nil,List.append_nil])⟩ <;> simp (maxSteps:=1000000)(disch:=(first|omega|(simp only [qI,qJ,qK]<;>omega)|exact qL _)) only [go_sem,↓reduceIte,n0,reduceCtorEq,n1,n2,n3,n4,n5,i0,i1,i2,i3,i4,i5,i6,i7,hr1_2,hr2_0,hr2_5,hr2_6,hr2_150,hr2_149,hr2_17,hr2_19,hI2,hN2,hS2]
            all_goals rfl
          · rintro ρ w16 ⟨j3,r16,hj3,hI3,hN3,hS3,hr1_3,hr3_0,hr3_5,hr3_6,hr3_150,hr3_149,hr3_17,hr3_19,hr3_178,hr3_177,hr3_21,hr3_23,ha16⟩
            have hB16 : B ≤ w16.heap.size := Nat.le_trans hB ha16.upd.size
            have hv_16 := ha16.upd.blk_some hv hdv
            have hx1_16 := ha16.upd.blk_some hx1 hnx1
            have hx2_16 := ha16.upd.blk_some hx2 hnx2
            by_cases hlt3 : j3 < (y2.at 2).l.length
            · obtain ⟨_,b3,o3,x3,ce3,hb3,hok3,hx3,hbl3,hxs3,hxe3,hq3,hRe3⟩ := SlR.get (size := 4) (by decide) hse2_2 hlt3
              subst hb3
              have hcat3 : (y2.at 2).l.take (j3 + 1) = (y2.at 2).l.take j3 ++ [(y2.at 2).l[j3]] := List.take_succ_eq_append_getElem hlt3
              have htl3 := take_flatMap_len (y2.at 2).l (fun x => partS (d + 1) fs_X0 ver true x) (j3 + 1)
              rw [← hXEe2_2,hcat3,List.flatMap_append,List.flatMap_cons,List.flatMap_nil,List.append_nil] at htl3
              have hge3 := (ge2_2.list rfl).2 _ (List.getElem_mem hlt3)
              generalize (y2.at 2).l[j3] = y3 at *
              have hnx3 := hd b3 hbl3 hok3
              obtain ⟨T3,hTT3⟩ : ∃ T,T = ((y2.at 2).l.take j3).flatMap (fun x => partS (d + 1) fs_X0 ver true x) := ⟨_,rfl⟩
              rw [← hTT3] at ha16 htl3
              have hx3_16 := ha16.upd.blk_some hx3 hnx3
              replace hRe3 : RepS true (d + 1) fs_X0 okM w y3 ce3 := Rep1_part.1 hRe3
              have hfe3 : FitW ver (d + 1) fs_X0 y3 := hge3.2 rfl
              obtain ⟨⟨ge3_0,ge3_1,ge3_2,-⟩,hfue3⟩ := hfe3
              replace ge3_0 : hasS fX0_0 ver = true → FitWF (FitW ver d) ver fX0_0 (y3.at 0) := ge3_0
              have hhe3_0 : hasS fX0_0 ver = true := hasS_t (by show (0 : Int) ≤ ver;omega) (by show (-1 : Int) < 0 ∨ ver ≤ (-1 : Int);omega)
              replace ge3_0 := ge3_0 hhe3_0
              replace ge3_1 : hasS fX0_1 ver = true → FitWF (FitW ver d) ver fX0_1 (y3.at 1) := ge3_1
              have hhe3_1 : hasS fX0_1 ver = true := hasS_t (by show (0 : Int) ≤ ver;omega) (by show (-1 : Int) < 0 ∨ ver ≤ (-1 : Int);omega)
              replace ge3_1 := ge3_1 hhe3_1
              replace ge3_2 : hasS fX0_2 ver = true → FitWF (FitW ver d) ver fX0_2 (y3.at 2) := ge3_2
              have hhe3_2 : hasS fX0_2 ver = true := hasS_t (by show (0 : Int) ≤ ver;omega) (by show (-1 : Int) < 0 ∨ ver ≤ (-1 : Int);omega)
              replace ge3_2 := ge3_2 hhe3_2
              obtain ⟨cse3,qe3,hcse3,hLe3,hTe3⟩ := hRe3.inv
              obtain ⟨ce3_0,ee3_0,rfl,he3_0,ce3_1,ee3_1,rfl,he3_1,ce3_2,ee3_2,rfl,he3_2,rfl⟩ := hLe3
              replace he3_0 : RepF (RepS true d) (szS true d) fX0_0 okM w (y3.at 0) ce3_0 := he3_0
              replace he3_1 : RepF (RepS true d) (szS true d) fX0_1 okM w (y3.at 1) ce3_1 := he3_1
              replace he3_2 : RepF (RepS true d) (szS true d) fX0_2 okM w (y3.at 2) ce3_2 := he3_2
              obtain rfl := (RepF_num (by decide)).1 he3_0
              obtain rfl := (RepF_num (by decide)).1 he3_1
              obtain ⟨pe3_2,rfl,hse3_2⟩ := RepF_listW ge3_2 rfl (by decide) he3_2
              obtain ⟨abe3_2,ace3_2,rfl,_⟩ := SlR.shape hse3_2
              have hlle3_2 := (ge3_2.list rfl).1
              obtain ⟨qme3,rfl⟩ := hTe3.shape
              subst hcse3
              have hq3_0 : x3.1[o3 + j3 * 4]? = some (.int .i64 (y3.at 0).n) := hq3 0 (by decide)
              have hq3_1 : x3.1[o3 + (j3 * 4 + 1)]? = some (.int .i64 (y3.at 1).n) := hq3 1 (by decide)
              have hq3_2 : x3.1[o3 + (j3 * 4 + 2)]? = some (.slice abe3_2 (y3.at 2).l.length ace3_2) := hq3 2 (by decide)
              have hq3_3 : x3.1[o3 + (j3 * 4 + 3)]? = some (.map qme3) := hq3 3 (by decide)
              obtain ⟨Xe3_0,hXXe3_0⟩ : ∃ X,X = fixedS (y3.at 0).n 8 := ⟨_,rfl⟩
              obtain ⟨Xe3_1,hXXe3_1⟩ : ∃ X,X = fixedS (y3.at 1).n 8 := ⟨_,rfl⟩
              obtain ⟨XLe3_2,hXLe3_2⟩ : ∃ X,X = uvarS ((y3.at 2).l.length + 1) := ⟨_,rfl⟩
              obtain ⟨XEe3_2,hXEe3_2⟩ : ∃ X,X = (y3.at 2).l.flatMap (fun x : Tree => fixedS x.n 1) := ⟨_,rfl⟩
              obtain ⟨XUe3,hXUe3⟩ : ∃ X,X = uvarS y3.u.length := ⟨_,rfl⟩
              obtain ⟨XTe3,hXTe3⟩ : ∃ X,X = y3.u.flatMap oneTag := ⟨_,rfl⟩
              have hPe3 : partS (d + 1) fs_X0 ver true y3 = (Xe3_0 ++ (Xe3_1 ++ ((XLe3_2 ++ XEe3_2) ++ []))) ++ (XUe3 ++ XTe3) := by rw [hXUe3,hXTe3];exact partS_yes rfl hfue3 (plainL_has (by decide) hhe3_0 ((fieldS_num 4 rfl (by decide)).trans hXXe3_0.symm) (plainL_has (by decide) hhe3_1 ((fieldS_num 4 rfl (by decide)).trans hXXe3_1.symm) (plainL_has (by decide) hhe3_2 ((fieldS_list_t (g := (fun x : Tree => fixedS x.n 1)) ge3_2 rfl (by decide) (fun x _ => valueS_num 1 (by decide))).trans (by rw [hXLe3_2,hXEe3_2])) rfl)))
              rw [hPe3] at htl3
              simp only [List.length_append,List.length_nil] at htl3
              repeat ((first | refine qA rfl ?_|refine qB ?_|refine qC rfl ?_|refine qD ?_|refine qE ?_|refine qF ?_|refine qG ?_|refine qH ?_);try simp (maxSteps:=1000000)(disch:=(first|omega|(simp only [qI,qJ,qK]<;>omega)|exact qL _)) only [go_sem,↓reduceIte,n0,reduceCtorEq,n1,n2,n3,n4,n5,i0,i1,i2,i3,i4,i5,i6,i7,hv_16,hx1_16,hx2_16,hx3_16,Int.toNat_natCast,Nat.mul_one,hq1_0,hq1_1,hq1_2,hq1_3,hq1_4,hq1_5,hq1_6,hq1_7,hq1_8,hq1_9,hq1_10,hq1_11,hq1_12,hq1_13,hq1_14,hq1_15,hq1_16,hq1_17,fze1_0_0,fze1_0_1,fze1_0_2,fze1_0_3,fze1_0_4,fze1_0_5,fze1_0_6,fze1_0_7,fze1_0_8,fze1_0_9,fze1_0_10,fze1_0_11,fze1_0_12,fze1_0_13,fze1_0_14,fze1_0_15,hxu1_0,hq2_0,hq2_1,hq2_2,hq2_3,hq3_0,hq3_1,hq3_2,hq3_3,hr1_3,hr3_0,hr3_5,hr3_6,hr3_150,hr3_149,hr3_17,hr3_19,hr3_178,hr3_177,hr3_21,hr3_23,hI3,hN3,hS3])
              refine (AppendInt64_fn _ _ _ ha16.own hB16 _ (by simp only [List.length_append,List.length_nil];omega)).mono ?_
              rintro r17 w17 hc17
              rw [← hXXe3_0] at hc17
              have ha17 := ha16.trans hc17
              have hB17 : B ≤ w17.heap.size := Nat.le_trans hB ha17.upd.size
              have hv_17 := ha17.upd.blk_some hv hdv
              have hx1_17 := ha17.upd.blk_some hx1 hnx1
              have hx2_17 := ha17.upd.blk_some hx2 hnx2
              have hx3_17 := ha17.upd.blk_some hx3 hnx3
              repeat ((first | refine qA rfl ?_|refine qB ?_|refine qC rfl ?_|refine qD ?_|refine qE ?_|refine qF ?_|refine qG ?_|refine qH ?_);try simp (maxSteps:=1000000)(disch:=(first|omega|(simp only [qI,qJ,qK]<;>omega)|exact qL _)) only [go_sem,↓reduceIte,n0,reduceCtorEq,n1,n2,n3,n4,n5,i0,i1,i2,i3,i4,i5,i6,i7,hv_17,hx1_17,hx2_17,hx3_17,Int.toNat_natCast,Nat.mul_one,hq1_0,hq1_1,hq1_2,hq1_3,hq1_4,hq1_5,hq1_6,hq1_7,hq1_8,hq1_9,hq1_10,hq1_11,hq1_12,hq1_13,hq1_14,hq1_15,hq1_16,hq1_17,fze1_0_0,fze1_0_1,fze1_0_2,fze1_0_3,fze1_0_4,fze1_0_5,fze1_0_6,fze1_0_7,fze1_0_8,fze1_0_9,fze1_0_10,fze1_0_11,fze1_0_12,fze1_0_13,fze1_0_14,fze1_0_15,hxu1_0,hq2_0,hq2_1,hq2_2,hq2_3,hq3_0,hq3_1,hq3_2,hq3_3,hr1_3,hr3_0,hr3_5,hr3_6,hr3_150,hr3_149,hr3_17,hr3_19,hr3_178,hr3_177,hr3_21,hr3_23,hI3,hN3,hS3])
              refine (AppendInt64_fn _ _ _ ha17.own hB17 _ (by simp only [List.length_append,List.length_nil];omega)).mono ?_
              rintro r18 w18 hc18
              rw [← hXXe3_1] at hc18
              have ha18 := ha17.trans hc18
              have hB18 : B ≤ w18.heap.size := Nat.le_trans hB ha18.upd.size
              have hv_18 := ha18.upd.blk_some hv hdv
              have hx1_18 := ha18.upd.blk_some hx1 hnx1
              have hx2_18 := ha18.upd.blk_some hx2 hnx2
              have hx3_18 := ha18.upd.blk_some hx3 hnx3
              repeat ((first | refine qA rfl ?_|refine qB ?_|refine qC rfl ?_|refine qD ?_|refine qE ?_|refine qF ?_|refine qG ?_|refine qH ?_);try simp (maxSteps:=1000000)(disch:=(first|omega|(simp only [qI,qJ,qK]<;>omega)|exact qL _)) only [go_sem,↓reduceIte,n0,reduceCtorEq,n1,n2,n3,n4,n5,i0,i1,i2,i3,i4,i5,i6,i7,hv_18,hx1_18,hx2_18,hx3_18,Int.toNat_natCast,Nat.mul_one,hq1_0,hq1_1,hq1_2,hq1_3,hq1_4,hq1_5,hq1_6,hq1_7,hq1_8,hq1_9,hq1_10,hq1_11,hq1_12,hq1_13,hq1_14,hq1_15,hq1_16,hq1_17,fze1_0_0,fze1_0_1,fze1_0_2,fze1_0_3,fze1_0_4,fze1_0_5,fze1_0_6,fze1_0_7,fze1_0_8,fze1_0_9,fze1_0_10,fze1_0_11,fze1_0_12,fze1_0_13,fze1_0_14,fze1_0_15,hxu1_0,hq2_0,hq2_1,hq2_2,hq2_3,hq3_0,hq3_1,hq3_2,hq3_3,hr1_3,hr3_0,hr3_5,hr3_6,hr3_150,hr3_149,hr3_17,hr3_19,hr3_178,hr3_177,hr3_21,hr3_23,hI3,hN3,hS3])
              refine (AppendCompactArrayLen_fn _ _ _ ha18.own hB18 (y3.at 2).l.length hlle3_2 (by simp only [List.length_append,List.length_nil];omega)).mono ?_
              rintro r19 w19 hc19
              rw [← hXLe3_2] at hc19
              have ha19 := ha18.trans hc19
              have hB19 : B ≤ w19.heap.size := Nat.le_trans hB ha19.upd.size
              have hv_19 := ha19.upd.blk_some hv hdv
              have hx1_19 := ha19.upd.blk_some hx1 hnx1
              have hx2_19 := ha19.upd.blk_some hx2 hnx2
              have hx3_19 := ha19.upd.blk_some hx3 hnx3
              repeat ((first | refine qA rfl ?_|refine qB ?_|refine qC rfl ?_|refine qD ?_|refine qE ?_|refine qF ?_|refine qG ?_|refine qH ?_);try simp (maxSteps:=1000000)(disch:=(first|omega|(simp only [qI,qJ,qK]<;>omega)|exact qL _)) only [go_sem,↓reduceIte,n0,reduceCtorEq,n1,n2,n3,n4,n5,i0,i1,i2,i3,i4,i5,i6,i7,hv_19,hx1_19,hx2_19,hx3_19,Int.toNat_natCast,Nat.mul_one,hq1_0,hq1_1,hq1_2,hq1_3,hq1_4,hq1_5,hq1_6,hq1_7,hq1_8,hq1_9,hq1_10,hq1_11,hq1_12,hq1_13,hq1_14,hq1_15,hq1_16,hq1_17,fze1_0_0,fze1_0_1,fze1_0_2,fze1_0_3,fze1_0_4,fze1_0_5,fze1_0_6,fze1_0_7,fze1_0_8,fze1_0_9,fze1_0_10,fze1_0_11,fze1_0_12,fze1_0_13,fze1_0_14,fze1_0_15,hxu1_0,hq2_0,hq2_1,hq2_2,hq2_3,hq3_0,hq3_1,hq3_2,hq3_3,hr1_3,hr3_0,hr3_5,hr3_6,hr3_150,hr3_149,hr3_17,hr3_19,hr3_178,hr3_177,hr3_21,hr3_23,hI3,hN3,hS3])
              have hadd4 := ha19
              refine W.exitJ 6 (fun ρ w' => ∃ r,ρ 1 = r ∧ ρ 0 = .pointer (some ⟨vb,0,none⟩) ∧ ρ 5 = .int .i16 ver ∧ ρ 6 = .bool true ∧ ρ 150 = .int .i64 j1 ∧ ρ 149 = .int .i64 (t.at 10).l.length ∧ ρ 17 = .slice (some ⟨b1,o1,none⟩) (t.at 10).l.length ac_10 ∧ ρ 19 = .pointer (some ⟨b1,o1 + j1 * 18,none⟩) ∧ ρ 178 = .int .i64 j2 ∧ ρ 177 = .int .i64 (y1.at 1).l.length ∧ ρ 21 = .slice (some ⟨b2,o2,none⟩) (y1.at 1).l.length ace1_1 ∧ ρ 23 = .pointer (some ⟨b2,o2 + j2 * 4,none⟩) ∧ ρ 219 = .int .i64 j3 ∧ ρ 218 = .int .i64 (y2.at 2).l.length ∧ ρ 26 = .slice (some ⟨b3,o3,none⟩) (y2.at 2).l.length ace2_2 ∧ ρ 28 = .pointer (some ⟨b3,o3 + j3 * 4,none⟩) ∧ AppR 5 B w v s (([] ++ X_0 ++ X_1 ++ X_2 ++ X_3 ++ X_4 ++ X_5 ++ XL_10 ++ T1 ++ Xe1_0 ++ XLe1_1 ++ T2 ++ Xe2_0 ++ Xe2_1 ++ XLe2_2 ++ T3 ++ Xe3_0 ++ Xe3_1 ++ XLe3_2) ++ XEe3_2) r w')
                (W.loop (fun ρ w' => ∃ (j : Nat) (r : Value),j ≤ (y3.at 2).l.length ∧ ρ 254 = .int .i64 j ∧ ρ 253 = .int .i64 (y3.at 2).l.length ∧ ρ 31 = .slice abe3_2 (y3.at 2).l.length ace3_2 ∧ ρ 1 = r ∧ ρ 0 = .pointer (some ⟨vb,0,none⟩) ∧ ρ 5 = .int .i16 ver ∧ ρ 6 = .bool true ∧ ρ 150 = .int .i64 j1 ∧ ρ 149 = .int .i64 (t.at 10).l.length ∧ ρ 17 = .slice (some ⟨b1,o1,none⟩) (t.at 10).l.length ac_10 ∧ ρ 19 = .pointer (some ⟨b1,o1 + j1 * 18,none⟩) ∧ ρ 178 = .int .i64 j2 ∧ ρ 177 = .int .i64 (y1.at 1).l.length ∧ ρ 21 = .slice (some ⟨b2,o2,none⟩) (y1.at 1).l.length ace1_1 ∧ ρ 23 = .pointer (some ⟨b2,o2 + j2 * 4,none⟩) ∧ ρ 219 = .int .i64 j3 ∧ ρ 218 = .int .i64 (y2.at 2).l.length ∧ ρ 26 = .slice (some ⟨b3,o3,none⟩) (y2.at 2).l.length ace2_2 ∧ ρ 28 = .pointer (some ⟨b3,o3 + j3 * 4,none⟩) ∧ AppR 5 B w v s (([] ++ X_0 ++ X_1 ++ X_2 ++ X_3 ++ X_4 ++ X_5 ++ XL_10 ++ T1 ++ Xe1_0 ++ XLe1_1 ++ T2 ++ Xe2_0 ++ Xe2_1 ++ XLe2_2 ++ T3 ++ Xe3_0 ++ Xe3_1 ++ XLe3_2) ++ ((y3.at 2).l.take j).flatMap (fun x : Tree => fixedS x.n 1)) r w')
                  (fun ρ _ => (y3.at 2).l.length - (RowKit.intOf (ρ 254)).toNat) ?_ ?_) ?_
              · refine ⟨0,_,Nat.zero_le _,?_,?_,?_,?_,?_,?_,?_,?_,?_,?_,?_,?_,?_,?_,?_,?_,?_,?_,?_,ha19.eqs (by rw [List.take_zero,List.flatMap_nil,List.append_nil])⟩ <;> simp (maxSteps:=1000000)(disch:=(first|omega|(simp only [qI,qJ,qK]<;>omega)|exact qL _)) only [go_sem,↓reduceIte,n0,reduceCtorEq,n1,n2,n3,n4,n5,i0,i1,i2,i3,i4,i5,i6,i7,hr1_3,hr3_0,hr3_5,hr3_6,hr3_150,hr3_149,hr3_17,hr3_19,hr3_178,hr3_177,hr3_21,hr3_23,hI3,hN3,hS3]
                all_goals rfl
              · rintro ρ w20 ⟨j4,r20,hj4,hI4,hN4,hS4,hr1_4,hr4_0,hr4_5,hr4_6,hr4_150,hr4_149,hr4_17,hr4_19,hr4_178,hr4_177,hr4_21,hr4_23,hr4_219,hr4_218,hr4_26,hr4_28,ha20⟩
                have hB20 : B ≤ w20.heap.size := Nat.le_trans hB ha20.upd.size
                have hv_20 := ha20.upd.blk_some hv hdv
                have hx1_20 := ha20.upd.blk_some hx1 hnx1
                have hx2_20 := ha20.upd.blk_some hx2 hnx2
                have hx3_20 := ha20.upd.blk_some hx3 hnx3
                by_cases hlt4 : j4 < (y3.at 2).l.length
                · obtain ⟨_,b4,o4,x4,ce4,hb4,hok4,hx4,hbl4,hxs4,hxe4,hq4,hRe4⟩ := SlR.get (size := 1) (by decide) hse3_2 hlt4
                  subst hb4
                  have hcat4 : (y3.at 2).l.take (j4 + 1) = (y3.at 2).l.take j4 ++ [(y3.at 2).l[j4]] := List.take_succ_eq_append_getElem hlt4
                  have htl4 := take_flatMap_len (y3.at 2).l (fun x : Tree => fixedS x.n 1) (j4 + 1)
                  rw [← hXEe3_2,hcat4,List.flatMap_append,List.flatMap_cons,List.flatMap_nil,List.append_nil] at htl4
                  have hge4 := (ge3_2.list rfl).2 _ (List.getElem_mem hlt4)
                  generalize (y3.at 2).l[j4] = y4 at *
                  have hnx4 := hd b4 hbl4 hok4
                  obtain ⟨T4,hTT4⟩ : ∃ T,T = ((y3.at 2).l.take j4).flatMap (fun x : Tree => fixedS x.n 1) := ⟨_,rfl⟩
                  rw [← hTT4] at ha20 htl4
                  have hx4_20 := ha20.upd.blk_some hx4 hnx4
                  obtain rfl := (Rep1_num (by decide)).1 hRe4
                  have hq4_0 : x4.1[o4 + j4]? = some (.int .i8 (IntKind.i8.wrap y4.n)) := by have := hq4 0 (by decide);rw [Nat.mul_one] at this;exact this
                  obtain ⟨Y4,hY4⟩ : ∃ Y,Y = fixedS (y4).n 1 := ⟨_,rfl⟩
                  replace htl4 : (T4 ++ Y4).length ≤ XEe3_2.length := by rw [hY4];exact htl4
                  simp only [List.length_append] at htl4
                  repeat ((first | refine qA rfl ?_|refine qB ?_|refine qC rfl ?_|refine qD ?_|refine qE ?_|refine qF ?_|refine qG ?_|refine qH ?_);try simp (maxSteps:=1000000)(disch:=(first|omega|(simp only [qI,qJ,qK]<;>omega)|exact qL _)) only [go_sem,↓reduceIte,n0,reduceCtorEq,n1,n2,n3,n4,n5,i0,i1,i2,i3,i4,i5,i6,i7,hv_20,hx1_20,hx2_20,hx3_20,hx4_20,Int.toNat_natCast,Nat.mul_one,hq1_0,hq1_1,hq1_2,hq1_3,hq1_4,hq1_5,hq1_6,hq1_7,hq1_8,hq1_9,hq1_10,hq1_11,hq1_12,hq1_13,hq1_14,hq1_15,hq1_16,hq1_17,fze1_0_0,fze1_0_1,fze1_0_2,fze1_0_3,fze1_0_4,fze1_0_5,fze1_0_6,fze1_0_7,fze1_0_8,fze1_0_9,fze1_0_10,fze1_0_11,fze1_0_12,fze1_0_13,fze1_0_14,fze1_0_15,hxu1_0,hq2_0,hq2_1,hq2_2,hq2_3,hq3_0,hq3_1,hq3_2,hq3_3,hq4_0,hr1_4,hr4_0,hr4_5,hr4_6,hr4_150,hr4_149,hr4_17,hr4_19,hr4_178,hr4_177,hr4_21,hr4_23,hr4_219,hr4_218,hr4_26,hr4_28,hI4,hN4,hS4])
                  refine (AppendInt8_fn _ _ _ ha20.own hB20 _ (by simp only [List.length_append,List.length_nil];omega)).mono ?_
                  rintro r21 w21 hc21
                  rw [wrap8,← hY4] at hc21
                  have ha21 := ha20.trans hc21
                  have hB21 : B ≤ w21.heap.size := Nat.le_trans hB ha21.upd.size
                  have hv_21 := ha21.upd.blk_some hv hdv
                  have hx1_21 := ha21.upd.blk_some hx1 hnx1
                  have hx2_21 := ha21.upd.blk_some hx2 hnx2
                  have hx3_21 := ha21.upd.blk_some hx3 hnx3
                  have hx4_21 := ha21.upd.blk_some hx4 hnx4
                  repeat ((first | refine qA rfl ?_|refine qB ?_|refine qC rfl ?_|refine qD ?_|refine qE ?_|refine qF ?_|refine qG ?_|refine qH ?_);try simp (maxSteps:=1000000)(disch:=(first|omega|(simp only [qI,qJ,qK]<;>omega)|exact qL _)) only [go_sem,↓reduceIte,n0,reduceCtorEq,n1,n2,n3,n4,n5,i0,i1,i2,i3,i4,i5,i6,i7,hr1_4,hr4_0,hr4_5,hr4_6,hr4_150,hr4_149,hr4_17,hr4_19,hr4_178,hr4_177,hr4_21,hr4_23,hr4_219,hr4_218,hr4_26,hr4_28,hI4,hN4,hS4])
                  refine ⟨⟨j4 + 1,_,by omega,rfl,rfl,ha21.eqs ?_⟩,?_⟩
                  · rw [hcat4,List.flatMap_append,List.flatMap_cons,List.flatMap_nil,List.append_nil,← hTT4,hY4];simp only [List.append_assoc,List.append_nil,List.nil_append]
                  · simp only [RowKit.intOf];omega
                · have hjl4 : j4 = (y3.at 2).l.length := by omega
                  subst hjl4
                  rw [List.take_length,← hXEe3_2] at ha20
                  repeat ((first | refine qA rfl ?_|refine qB ?_|refine qC rfl ?_|refine qD ?_|refine qE ?_|refine qF ?_|refine qG ?_|refine qH ?_);try simp (maxSteps:=1000000)(disch:=(first|omega|(simp only [qI,qJ,qK]<;>omega)|exact qL _)) only [go_sem,↓reduceIte,n0,reduceCtorEq,n1,n2,n3,n4,n5,i0,i1,i2,i3,i4,i5,i6,i7,hI4,hN4])
                  exact ⟨_,hr1_4,hr4_0,hr4_5,hr4_6,hr4_150,hr4_149,hr4_17,hr4_19,hr4_178,hr4_177,hr4_21,hr4_23,hr4_219,hr4_218,hr4_26,hr4_28,ha20⟩
              · rintro ρ w22 ⟨r22,hr1_5,hr5_0,hr5_5,hr5_6,hr5_150,hr5_149,hr5_17,hr5_19,hr5_178,hr5_177,hr5_21,hr5_23,hr5_219,hr5_218,hr5_26,hr5_28,ha22⟩
                have hB22 : B ≤ w22.heap.size := Nat.le_trans hB ha22.upd.size
                have hv_22 := ha22.upd.blk_some hv hdv
                have hx1_22 := ha22.upd.blk_some hx1 hnx1
                have hx2_22 := ha22.upd.blk_some hx2 hnx2
                have hx3_22 := ha22.upd.blk_some hx3 hnx3
                repeat ((first | refine qA rfl ?_|refine qB ?_|refine qC rfl ?_|refine qD ?_|refine qE ?_|refine qF ?_|refine qG ?_|refine qH ?_);try simp (maxSteps:=1000000)(disch:=(first|omega|(simp only [qI,qJ,qK]<;>omega)|exact qL _)) only [go_sem,↓reduceIte,n0,reduceCtorEq,n1,n2,n3,n4,n5,i0,i1,i2,i3,i4,i5,i6,i7,hv_22,hx1_22,hx2_22,hx3_22,Int.toNat_natCast,Nat.mul_one,hq1_0,hq1_1,hq1_2,hq1_3,hq1_4,hq1_5,hq1_6,hq1_7,hq1_8,hq1_9,hq1_10,hq1_11,hq1_12,hq1_13,hq1_14,hq1_15,hq1_16,hq1_17,fze1_0_0,fze1_0_1,fze1_0_2,fze1_0_3,fze1_0_4,fze1_0_5,fze1_0_6,fze1_0_7,fze1_0_8,fze1_0_9,fze1_0_10,fze1_0_11,fze1_0_12,fze1_0_13,fze1_0_14,fze1_0_15,hxu1_0,hq2_0,hq2_1,hq2_2,hq2_3,hq3_0,hq3_1,hq3_2,hq3_3,hr1_5,hr5_0,hr5_5,hr5_6,hr5_150,hr5_149,hr5_17,hr5_19,hr5_178,hr5_177,hr5_21,hr5_23,hr5_219,hr5_218,hr5_26,hr5_28])
                have hTk22 : TagsM (OkS okM w.heap.size) w22 (.map qme3) y3.u := (hTe3.weaken fun b h1 h2 => ⟨h2,h1⟩).keep (ha22.upd.keeps fun b hb hk => hd b hb hk.1)
                refine (TagsLen_fn (ok := OkS okM w.heap.size) w22 hx3_22 (to := o3 + (j3 * 4 + 3)) hq3_3 hTk22).mono ?_
                rintro _ w22' ⟨rfl,rfl⟩
                have hul22 : y3.u.length ≤ 32767 := hfue3.1
                have ew22 : IntKind.u32.wrap (y3.u.length : Int) = y3.u.length := u32_wrap (by omega)
                have ez22 : IntKind.u32.wrap (0 + (y3.u.length : Int)) = y3.u.length := by rw [Int.zero_add,u32_wrap (by omega)]
                simp (maxSteps:=1000000)(disch:=(first|omega|(simp only [qI,qJ,qK]<;>omega)|exact qL _)) only [go_sem,↓reduceIte,n0,reduceCtorEq,n1,n2,n3,n4,n5,i0,i1,i2,i3,i4,i5,i6,i7,hv_22,hx1_22,hx2_22,hx3_22,Int.toNat_natCast,Nat.mul_one,hq1_0,hq1_1,hq1_2,hq1_3,hq1_4,hq1_5,hq1_6,hq1_7,hq1_8,hq1_9,hq1_10,hq1_11,hq1_12,hq1_13,hq1_14,hq1_15,hq1_16,hq1_17,fze1_0_0,fze1_0_1,fze1_0_2,fze1_0_3,fze1_0_4,fze1_0_5,fze1_0_6,fze1_0_7,fze1_0_8,fze1_0_9,fze1_0_10,fze1_0_11,fze1_0_12,fze1_0_13,fze1_0_14,fze1_0_15,hxu1_0,hq2_0,hq2_1,hq2_2,hq2_3,hq3_0,hq3_1,hq3_2,hq3_3,hr1_5,hr5_0,hr5_5,hr5_6,hr5_150,hr5_149,hr5_17,hr5_19,hr5_178,hr5_177,hr5_21,hr5_23,hr5_219,hr5_218,hr5_26,hr5_28,ew22,ez22]
                refine (AppendUvarint_fn _ _ _ ha22.own hB22 y3.u.length (by omega) (by simp only [List.length_append,List.length_nil];omega)).mono ?_
                rintro r23 w23 hc23
                rw [← hXUe3] at hc23
                have ha23 := ha22.trans hc23
                have hB23 : B ≤ w23.heap.size := Nat.le_trans hB ha23.upd.size
                have hv_23 := ha23.upd.blk_some hv hdv
                have hx1_23 := ha23.upd.blk_some hx1 hnx1
                have hx2_23 := ha23.upd.blk_some hx2 hnx2
                have hx3_23 := ha23.upd.blk_some hx3 hnx3
                repeat ((first | refine qA rfl ?_|refine qB ?_|refine qC rfl ?_|refine qD ?_|refine qE ?_|refine qF ?_|refine qG ?_|refine qH ?_);try simp (maxSteps:=1000000)(disch:=(first|omega|(simp only [qI,qJ,qK]<;>omega)|exact qL _)) only [go_sem,↓reduceIte,n0,reduceCtorEq,n1,n2,n3,n4,n5,i0,i1,i2,i3,i4,i5,i6,i7,hv_23,hx1_23,hx2_23,hx3_23,Int.toNat_natCast,Nat.mul_one,hq1_0,hq1_1,hq1_2,hq1_3,hq1_4,hq1_5,hq1_6,hq1_7,hq1_8,hq1_9,hq1_10,hq1_11,hq1_12,hq1_13,hq1_14,hq1_15,hq1_16,hq1_17,fze1_0_0,fze1_0_1,fze1_0_2,fze1_0_3,fze1_0_4,fze1_0_5,fze1_0_6,fze1_0_7,fze1_0_8,fze1_0_9,fze1_0_10,fze1_0_11,fze1_0_12,fze1_0_13,fze1_0_14,fze1_0_15,hxu1_0,hq2_0,hq2_1,hq2_2,hq2_3,hq3_0,hq3_1,hq3_2,hq3_3,hr1_5,hr5_0,hr5_5,hr5_6,hr5_150,hr5_149,hr5_17,hr5_19,hr5_178,hr5_177,hr5_21,hr5_23,hr5_219,hr5_218,hr5_26,hr5_28])
                have hTk23 : TagsM (OkS okM w.heap.size) w23 (.map qme3) y3.u := (hTe3.weaken fun b h1 h2 => ⟨h2,h1⟩).keep (ha23.upd.keeps fun b hb hk => hd b hb hk.1)
                refine (AppendEach_fn (ok := OkS okM w.heap.size) _ _ _ ha23.own hB23 hx3_23 (to := o3 + (j3 * 4 + 3)) hq3_3 hTk23 (rising_keys hfue3) hfue3.1 (tags_small hfue3 hTk23) (hdK ha23) (ownK ha23 (blk_lt hx3) hnx3) (by simp only [List.length_append,List.length_nil];omega)).mono ?_
                rintro r24 w24 hc24
                rw [← hXTe3] at hc24
                have ha24 := ha23.trans hc24
                have hB24 : B ≤ w24.heap.size := Nat.le_trans hB ha24.upd.size
                have hv_24 := ha24.upd.blk_some hv hdv
                have hx1_24 := ha24.upd.blk_some hx1 hnx1
                have hx2_24 := ha24.upd.blk_some hx2 hnx2
                have hx3_24 := ha24.upd.blk_some hx3 hnx3
                repeat ((first | refine qA rfl ?_|refine qB ?_|refine qC rfl ?_|refine qD ?_|refine qE ?_|refine qF ?_|refine qG ?_|refine qH ?_);try simp (maxSteps:=1000000)(disch:=(first|omega|(simp only [qI,qJ,qK]<;>omega)|exact qL _)) only [go_sem,↓reduceIte,n0,reduceCtorEq,n1,n2,n3,n4,n5,i0,i1,i2,i3,i4,i5,i6,i7,hr1_5,hr5_0,hr5_5,hr5_6,hr5_150,hr5_149,hr5_17,hr5_19,hr5_178,hr5_177,hr5_21,hr5_23,hr5_219,hr5_218,hr5_26,hr5_28])
                refine ⟨⟨j3 + 1,_,by omega,rfl,rfl,ha24.eqs ?_⟩,?_⟩
                · rw [hcat3,List.flatMap_append,List.flatMap_cons,List.flatMap_nil,List.append_nil,← hTT3,hPe3];simp only [List.append_assoc,List.append_nil,List.nil_append]
                · simp only [RowKit.intOf];omega
            · have hjl3 : j3 = (y2.at 2).l.length := by omega
              subst hjl3
              rw [List.take_length,← hXEe2_2] at ha16
              repeat ((first | refine qA rfl ?_|refine qB ?_|refine qC rfl ?_|refine qD ?_|refine qE ?_|refine qF ?_|refine qG ?_|refine qH ?_);try simp (maxSteps:=1000000)(disch:=(first|omega|(simp only [qI,qJ,qK]<;>omega)|exact qL _)) only [go_sem,↓reduceIte,n0,reduceCtorEq,n1,n2,n3,n4,n5,i0,i1,i2,i3,i4,i5,i6,i7,hI3,hN3])
              exact ⟨_,hr1_3,hr3_0,hr3_5,hr3_6,hr3_150,hr3_149,hr3_17,hr3_19,hr3_178,hr3_177,hr3_21,hr3_23,ha16⟩
          · rintro ρ w25 ⟨r25,hr1_6,hr6_0,hr6_5,hr6_6,hr6_150,hr6_149,hr6_17,hr6_19,hr6_178,hr6_177,hr6_21,hr6_23,ha25⟩
            have hB25 : B ≤ w25.heap.size := Nat.le_trans hB ha25.upd.size
            have hv_25 := ha25.upd.blk_some hv hdv
            have hx1_25 := ha25.upd.blk_some hx1 hnx1
            have hx2_25 := ha25.upd.blk_some hx2 hnx2
            repeat ((first | refine qA rfl ?_|refine qB ?_|refine qC rfl ?_|refine qD ?_|refine qE ?_|refine qF ?_|refine qG ?_|refine qH ?_);try simp (maxSteps:=1000000)(disch:=(first|omega|(simp only [qI,qJ,qK]<;>omega)|exact qL _)) only [go_sem,↓reduceIte,n0,reduceCtorEq,n1,n2,n3,n4,n5,i0,i1,i2,i3,i4,i5,i6,i7,hv_25,hx1_25,hx2_25,Int.toNat_natCast,Nat.mul_one,hq1_0,hq1_1,hq1_2,hq1_3,hq1_4,hq1_5,hq1_6,hq1_7,hq1_8,hq1_9,hq1_10,hq1_11,hq1_12,hq1_13,hq1_14,hq1_15,hq1_16,hq1_17,fze1_0_0,fze1_0_1,fze1_0_2,fze1_0_3,fze1_0_4,fze1_0_5,fze1_0_6,fze1_0_7,fze1_0_8,fze1_0_9,fze1_0_10,fze1_0_11,fze1_0_12,fze1_0_13,fze1_0_14,fze1_0_15,hxu1_0,hq2_0,hq2_1,hq2_2,hq2_3,hr1_6,hr6_0,hr6_5,hr6_6,hr6_150,hr6_149,hr6_17,hr6_19,hr6_178,hr6_177,hr6_21,hr6_23])
            have hTk25 : TagsM (OkS okM w.heap.size) w25 (.map qme2) y2.u := (hTe2.weaken fun b h1 h2 => ⟨h2,h1⟩).keep (ha25.upd.keeps fun b hb hk => hd b hb hk.1)
            refine (TagsLen_fn (ok := OkS okM w.heap.size) w25 hx2_25 (to := o2 + (j2 * 4 + 3)) hq2_3 hTk25).mono ?_
            rintro _ w25' ⟨rfl,rfl⟩
            have hul25 : y2.u.length ≤ 32767 := hfue2.1
            have ew25 : IntKind.u32.wrap (y2.u.length : Int) = y2.u.length := u32_wrap (by omega)
            have ez25 : IntKind.u32.wrap (0 + (y2.u.length : Int)) = y2.u.length := by rw [Int.zero_add,u32_wrap (by omega)]
            simp (maxSteps:=1000000)(disch:=(first|omega|(simp only [qI,qJ,qK]<;>omega)|exact qL _)) only [go_sem,↓reduceIte,n0,reduceCtorEq,n1,n2,n3,n4,n5,i0,i1,i2,i3,i4,i5,i6,i7,hv_25,hx1_25,hx2_25,Int.toNat_natCast,Nat.mul_one,hq1_0,hq1_1,hq1_2,hq1_3,hq1_4,hq1_5,hq1_6,hq1_7,hq1_8,hq1_9,hq1_10,hq1_11,hq1_12,hq1_13,hq1_14,hq1_15,hq1_16,hq1_17,fze1_0_0,fze1_0_1,fze1_0_2,fze1_0_3,fze1_0_4,fze1_0_5,fze1_0_6,fze1_0_7,fze1_0_8,fze1_0_9,fze1_0_10,fze1_0_11,fze1_0_12,fze1_0_13,fze1_0_14,fze1_0_15,hxu1_0,hq2_0,hq2_1,hq2_2,hq2_3,hr1_6,hr6_0,hr6_5,hr6_6,hr6_150,hr6_149,hr6_17,hr6_19,hr6_178,hr6_177,hr6_21,hr6_23,ew25,ez25]
            refine (AppendUvarint_fn _ _ _ ha25.own hB25 y2.u.length (by omega) (by simp only [List.length_append,List.length_nil];omega)).mono ?_
            rintro r26 w26 hc26
            rw [← hXUe2] at hc26
            have ha26 := ha25.trans hc26
            have hB26 : B ≤ w26.heap.size := Nat.le_trans hB ha26.upd.size
            have hv_26 := ha26.upd.blk_some hv hdv
            have hx1_26 := ha26.upd.blk_some hx1 hnx1
            have hx2_26 := ha26.upd.blk_some hx2 hnx2
            repeat ((first | refine qA rfl ?_|refine qB ?_|refine qC rfl ?_|refine qD ?_|refine qE ?_|refine qF ?_|refine qG ?_|refine qH ?_);try simp (maxSteps:=1000000)(disch:=(first|omega|(simp only [qI,qJ,qK]<;>omega)|exact qL _)) only [go_sem,↓reduceIte,n0,reduceCtorEq,n1,n2,n3,n4,n5,i0,i1,i2,i3,i4,i5,i6,i7,hv_26,hx1_26,hx2_26,Int.toNat_natCast,Nat.mul_one,hq1_0,hq1_1,hq1_2,hq1_3,hq1_4,hq1_5,hq1_6,hq1_7,hq1_8,hq1_9,hq1_10,hq1_11,hq1_12,hq1_13,hq1_14,hq1_15,hq1_16,hq1_17,fze1_0_0,fze1_0_1,fze1_0_2,fze1_0_3,fze1_0_4,fze1_0_5,fze1_0_6,fze1_0_7,fze1_0_8,fze1_0_9,fze1_0_10,fze1_0_11,fze1_0_12,fze1_0_13,fze1_0_14,fze1_0_15,hxu1_0,hq2_0,hq2_1,hq2_2,hq2_3,hr1_6,hr6_0,hr6_5,hr6_6,hr6_150,hr6_149,hr6_17,hr6_19,hr6_178,hr6_177,hr6_21,hr6_23])
            have hTk26 : TagsM (OkS okM w.heap.size) w26 (.map qme2) y2.u := (hTe2.weaken fun b h1 h2 => ⟨h2,h1⟩).keep (ha26.upd.keeps fun b hb hk => hd b hb hk.1)
            refine (AppendEach_fn (ok := OkS okM w.heap.size) _ _ _ ha26.own hB26 hx2_26 (to := o2 + (j2 * 4 + 3)) hq2_3 hTk26 (rising_keys hfue2) hfue2.1 (tags_small hfue2 hTk26) (hdK ha26) (ownK ha26 (blk_lt hx2) hnx2) (by simp only [List.length_append,List.length_nil];omega)).mono ?_
            rintro r27 w27 hc27
            rw [← hXTe2] at hc27
            have ha27 := ha26.trans hc27
            have hB27 : B ≤ w27.heap.size := Nat.le_trans hB ha27.upd.size
            have hv_27 := ha27.upd.blk_some hv hdv
            have hx1_27 := ha27.upd.blk_some hx1 hnx1
            have hx2_27 := ha27.upd.blk_some hx2 hnx2
            repeat ((first | refine qA rfl ?_|refine qB ?_|refine qC rfl ?_|refine qD ?_|refine qE ?_|refine qF ?_|refine qG ?_|refine qH ?_);try simp (maxSteps:=1000000)(disch:=(first|omega|(simp only [qI,qJ,qK]<;>omega)|exact qL _)) only [go_sem,↓reduceIte,n0,reduceCtorEq,n1,n2,n3,n4,n5,i0,i1,i2,i3,i4,i5,i6,i7,hr1_6,hr6_0,hr6_5,hr6_6,hr6_150,hr6_149,hr6_17,hr6_19,hr6_178,hr6_177,hr6_21,hr6_23])
            refine ⟨⟨j2 + 1,_,by omega,rfl,rfl,ha27.eqs ?_⟩,?_⟩
            · rw [hcat2,List.flatMap_append,List.flatMap_cons,List.flatMap_nil,List.append_nil,← hTT2,hPe2];simp only [List.append_assoc,List.append_nil,List.nil_append]
            · simp only [RowKit.intOf];omega
        · have hjl2 : j2 = (y1.at 1).l.length := by omega
          subst hjl2
          rw [List.take_length,← hXEe1_1] at ha12
          repeat ((first | refine qA rfl ?_|refine qB ?_|refine qC rfl ?_|refine qD ?_|refine qE ?_|refine qF ?_|refine qG ?_|refine qH ?_);try simp (maxSteps:=1000000)(disch:=(first|omega|(simp only [qI,qJ,qK]<;>omega)|exact qL _)) only [go_sem,↓reduceIte,n0,reduceCtorEq,n1,n2,n3,n4,n5,i0,i1,i2,i3,i4,i5,i6,i7,hI2,hN2])
          exact ⟨_,hr1_2,hr2_0,hr2_5,hr2_6,hr2_150,hr2_149,hr2_17,hr2_19,ha12⟩
      · rintro ρ w28 ⟨r28,hr1_7,hr7_0,hr7_5,hr7_6,hr7_150,hr7_149,hr7_17,hr7_19,ha28⟩
        have hB28 : B ≤ w28.heap.size := Nat.le_trans hB ha28.upd.size
        have hv_28 := ha28.upd.blk_some hv hdv
        have hx1_28 := ha28.upd.blk_some hx1 hnx1
        repeat ((first | refine qA rfl ?_|refine qB ?_|refine qC rfl ?_|refine qD ?_|refine qE ?_|refine qF ?_|refine qG ?_|refine qH ?_);try simp (maxSteps:=1000000)(disch:=(first|omega|(simp only [qI,qJ,qK]<;>omega)|exact qL _)) only [go_sem,↓reduceIte,n0,reduceCtorEq,n1,n2,n3,n4,n5,i0,i1,i2,i3,i4,i5,i6,i7,hv_28,hx1_28,Int.toNat_natCast,Nat.mul_one,hq1_0,hq1_1,hq1_2,hq1_3,hq1_4,hq1_5,hq1_6,hq1_7,hq1_8,hq1_9,hq1_10,hq1_11,hq1_12,hq1_13,hq1_14,hq1_15,hq1_16,hq1_17,fze1_0_0,fze1_0_1,fze1_0_2,fze1_0_3,fze1_0_4,fze1_0_5,fze1_0_6,fze1_0_7,fze1_0_8,fze1_0_9,fze1_0_10,fze1_0_11,fze1_0_12,fze1_0_13,fze1_0_14,fze1_0_15,hxu1_0,hr1_7,hr7_0,hr7_5,hr7_6,hr7_150,hr7_149,hr7_17,hr7_19])
        have hTk28 : TagsM (OkS okM w.heap.size) w28 (.map qme1) y1.u := (hTe1.weaken fun b h1 h2 => ⟨h2,h1⟩).keep (ha28.upd.keeps fun b hb hk => hd b hb hk.1)
        refine (TagsLen_fn (ok := OkS okM w.heap.size) w28 hx1_28 (to := o1 + (j1 * 18 + 17)) hq1_17 hTk28).mono ?_
        rintro _ w28' ⟨rfl,rfl⟩
        have hul28 : y1.u.length ≤ 32767 := hfue1.1
        have ew28 : IntKind.u32.wrap (y1.u.length : Int) = y1.u.length := u32_wrap (by omega)
        have ez28 : IntKind.u32.wrap (0 + (y1.u.length : Int)) = y1.u.length := by rw [Int.zero_add,u32_wrap (by omega)]
        simp (maxSteps:=1000000)(disch:=(first|omega|(simp only [qI,qJ,qK]<;>omega)|exact qL _)) only [go_sem,↓reduceIte,n0,reduceCtorEq,n1,n2,n3,n4,n5,i0,i1,i2,i3,i4,i5,i6,i7,hv_28,hx1_28,Int.toNat_natCast,Nat.mul_one,hq1_0,hq1_1,hq1_2,hq1_3,hq1_4,hq1_5,hq1_6,hq1_7,hq1_8,hq1_9,hq1_10,hq1_11,hq1_12,hq1_13,hq1_14,hq1_15,hq1_16,hq1_17,fze1_0_0,fze1_0_1,fze1_0_2,fze1_0_3,fze1_0_4,fze1_0_5,fze1_0_6,fze1_0_7,fze1_0_8,fze1_0_9,fze1_0_10,fze1_0_11,fze1_0_12,fze1_0_13,fze1_0_14,fze1_0_15,hxu1_0,hr1_7,hr7_0,hr7_5,hr7_6,hr7_150,hr7_149,hr7_17,hr7_19,ew28,ez28]
        refine (AppendUvarint_fn _ _ _ ha28.own hB28 y1.u.length (by omega) (by simp only [List.length_append,List.length_nil];omega)).mono ?_
        rintro r29 w29 hc29
        rw [← hXUe1] at hc29
        have ha29 := ha28.trans hc29
        have hB29 : B ≤ w29.heap.size := Nat.le_trans hB ha29.upd.size
        have hv_29 := ha29.upd.blk_some hv hdv
        have hx1_29 := ha29.upd.blk_some hx1 hnx1
        repeat ((first | refine qA rfl ?_|refine qB ?_|refine qC rfl ?_|refine qD ?_|refine qE ?_|refine qF ?_|refine qG ?_|refine qH ?_);try simp (maxSteps:=1000000)(disch:=(first|omega|(simp only [qI,qJ,qK]<;>omega)|exact qL _)) only [go_sem,↓reduceIte,n0,reduceCtorEq,n1,n2,n3,n4,n5,i0,i1,i2,i3,i4,i5,i6,i7,hv_29,hx1_29,Int.toNat_natCast,Nat.mul_one,hq1_0,hq1_1,hq1_2,hq1_3,hq1_4,hq1_5,hq1_6,hq1_7,hq1_8,hq1_9,hq1_10,hq1_11,hq1_12,hq1_13,hq1_14,hq1_15,hq1_16,hq1_17,fze1_0_0,fze1_0_1,fze1_0_2,fze1_0_3,fze1_0_4,fze1_0_5,fze1_0_6,fze1_0_7,fze1_0_8,fze1_0_9,fze1_0_10,fze1_0_11,fze1_0_12,fze1_0_13,fze1_0_14,fze1_0_15,hxu1_0,hr1_7,hr7_0,hr7_5,hr7_6,hr7_150,hr7_149,hr7_17,hr7_19])
        have hTk29 : TagsM (OkS okM w.heap.size) w29 (.map qme1) y1.u := (hTe1.weaken fun b h1 h2 => ⟨h2,h1⟩).keep (ha29.upd.keeps fun b hb hk => hd b hb hk.1)
        refine (AppendEach_fn (ok := OkS okM w.heap.size) _ _ _ ha29.own hB29 hx1_29 (to := o1 + (j1 * 18 + 17)) hq1_17 hTk29 (rising_keys hfue1) hfue1.1 (tags_small hfue1 hTk29) (hdK ha29) (ownK ha29 (blk_lt hx1) hnx1) (by simp only [List.length_append,List.length_nil];omega)).mono ?_
        rintro r30 w30 hc30
        rw [← hXTe1] at hc30
        have ha30 := ha29.trans hc30
        have hB30 : B ≤ w30.heap.size := Nat.le_trans hB ha30.upd.size
        have hv_30 := ha30.upd.blk_some hv hdv
        have hx1_30 := ha30.upd.blk_some hx1 hnx1
        repeat ((first | refine qA rfl ?_|refine qB ?_|refine qC rfl ?_|refine qD ?_|refine qE ?_|refine qF ?_|refine qG ?_|refine qH ?_);try simp (maxSteps:=1000000)(disch:=(first|omega|(simp only [qI,qJ,qK]<;>omega)|exact qL _)) only [go_sem,↓reduceIte,n0,reduceCtorEq,n1,n2,n3,n4,n5,i0,i1,i2,i3,i4,i5,i6,i7,hr1_7,hr7_0,hr7_5,hr7_6,hr7_150,hr7_149,hr7_17,hr7_19])
        refine ⟨⟨j1 + 1,_,by omega,rfl,rfl,ha30.eqs ?_⟩,?_⟩
        · rw [hcat1,List.flatMap_append,List.flatMap_cons,List.flatMap_nil,List.append_nil,← hTT1,hPe1];simp only [List.append_assoc,List.append_nil,List.nil_append]
        · simp only [RowKit.intOf];omega
    · have hjl1 : j1 = (t.at 10).l.length := by omega
      subst hjl1
      rw [List.take_length,← hXE_10] at ha8
      repeat ((first | refine qA rfl ?_|refine qB ?_|refine qC rfl ?_|refine qD ?_|refine qE ?_|refine qF ?_|refine qG ?_|refine qH ?_);try simp (maxSteps:=1000000)(disch:=(first|omega|(simp only [qI,qJ,qK]<;>omega)|exact qL _)) only [go_sem,↓reduceIte,n0,reduceCtorEq,n1,n2,n3,n4,n5,i0,i1,i2,i3,i4,i5,i6,i7,hI1,hN1])
      exact ⟨_,hr1_1,hr1_0,hr1_5,hr1_6,ha8⟩
  · rintro ρ w31 ⟨r31,hr1_8,hr8_0,hr8_5,hr8_6,ha31⟩
    have hB31 : B ≤ w31.heap.size := Nat.le_trans hB ha31.upd.size
    have hv_31 := ha31.upd.blk_some hv hdv
    repeat ((first | refine qA rfl ?_|refine qB ?_|refine qC rfl ?_|refine qD ?_|refine qE ?_|refine qF ?_|refine qG ?_|refine qH ?_);try simp (maxSteps:=1000000)(disch:=(first|omega|(simp only [qI,qJ,qK]<;>omega)|exact qL _)) only [go_sem,↓reduceIte,n0,reduceCtorEq,n1,n2,n3,n4,n5,i0,i1,i2,i3,i4,i5,i6,i7,hv_31,hr1_8,hr8_0,hr8_5,hr8_6])
    refine (AppendCompactArrayLen_fn _ _ _ ha31.own hB31 (t.at 11).l.length hll_11 (by simp only [List.length_append,List.length_nil];omega)).mono ?_
    rintro r32 w32 hc32
    rw [← hXL_11] at hc32
    have ha32 := ha31.trans hc32
    have hB32 : B ≤ w32.heap.size := Nat.le_trans hB ha32.upd.size
    have hv_32 := ha32.upd.blk_some hv hdv
    repeat ((first | refine qA rfl ?_|refine qB ?_|refine qC rfl ?_|refine qD ?_|refine qE ?_|refine qF ?_|refine qG ?_|refine qH ?_);try simp (maxSteps:=1000000)(disch:=(first|omega|(simp only [qI,qJ,qK]<;>omega)|exact qL _)) only [go_sem,↓reduceIte,n0,reduceCtorEq,n1,n2,n3,n4,n5,i0,i1,i2,i3,i4,i5,i6,i7,hv_32,hr1_8,hr8_0,hr8_5,hr8_6])
    have hadd9 := ha32
    refine W.exitJ 8 (fun ρ w' => ∃ r,ρ 1 = r ∧ ρ 0 = .pointer (some ⟨vb,0,none⟩) ∧ ρ 5 = .int .i16 ver ∧ ρ 6 = .bool true ∧ AppR 5 B w v s (([] ++ X_0 ++ X_1 ++ X_2 ++ X_3 ++ X_4 ++ X_5 ++ XL_10 ++ XE_10 ++ XL_11) ++ XE_11) r w')
      (W.loop (fun ρ w' => ∃ (j : Nat) (r : Value),j ≤ (t.at 11).l.length ∧ ρ 325 = .int .i64 j ∧ ρ 324 = .int .i64 (t.at 11).l.length ∧ ρ 34 = .slice ab_11 (t.at 11).l.length ac_11 ∧ ρ 1 = r ∧ ρ 0 = .pointer (some ⟨vb,0,none⟩) ∧ ρ 5 = .int .i16 ver ∧ ρ 6 = .bool true ∧ AppR 5 B w v s (([] ++ X_0 ++ X_1 ++ X_2 ++ X_3 ++ X_4 ++ X_5 ++ XL_10 ++ XE_10 ++ XL_11) ++ ((t.at 11).l.take j).flatMap (fun x => partS (d + 3) fs_X1 ver true x)) r w')
        (fun ρ _ => (t.at 11).l.length - (RowKit.intOf (ρ 325)).toNat) ?_ ?_) ?_
    · refine ⟨0,_,Nat.zero_le _,?_,?_,?_,?_,?_,?_,?_,ha32.eqs (by rw [List.take_zero,List.flatMap_nil,List.append_nil])⟩ <;> simp (maxSteps:=1000000)(disch:=(first|omega|(simp only [qI,qJ,qK]<;>omega)|exact qL _)) only [go_sem,↓reduceIte,n0,reduceCtorEq,n1,n2,n3,n4,n5,i0,i1,i2,i3,i4,i5,i6,i7,hr1_8,hr8_0,hr8_5,hr8_6]
      all_goals rfl
    · rintro ρ w33 ⟨j9,r33,hj9,hI9,hN9,hS9,hr1_9,hr9_0,hr9_5,hr9_6,ha33⟩
      have hB33 : B ≤ w33.heap.size := Nat.le_trans hB ha33.upd.size
      have hv_33 := ha33.upd.blk_some hv hdv
      by_cases hlt9 : j9 < (t.at 11).l.length
      · obtain ⟨_,b9,o9,x9,ce9,hb9,hok9,hx9,hbl9,hxs9,hxe9,hq9,hRe9⟩ := SlR.get (size := 18) (by decide) hs_11 hlt9
        subst hb9
        have hcat9 : (t.at 11).l.take (j9 + 1) = (t.at 11).l.take j9 ++ [(t.at 11).l[j9]] := List.take_succ_eq_append_getElem hlt9
        have htl9 := take_flatMap_len (t.at 11).l (fun x => partS (d + 3) fs_X1 ver true x) (j9 + 1)
        rw [← hXE_11,hcat9,List.flatMap_append,List.flatMap_cons,List.flatMap_nil,List.append_nil] at htl9
        have hge9 := (g_11.list rfl).2 _ (List.getElem_mem hlt9)
        generalize (t.at 11).l[j9] = y9 at *
        have hnx9 := hd b9 hbl9 hok9
        obtain ⟨T9,hTT9⟩ : ∃ T,T = ((t.at 11).l.take j9).flatMap (fun x => partS (d + 3) fs_X1 ver true x) := ⟨_,rfl⟩
        rw [← hTT9] at ha33 htl9
        have hx9_33 := ha33.upd.blk_some hx9 hnx9
        replace hRe9 : RepS true (d + 3) fs_X1 okM w y9 ce9 := Rep1_part.1 hRe9
        have hfe9 : FitW ver (d + 3) fs_X1 y9 := hge9.2 rfl
        obtain ⟨⟨ge9_0,ge9_1,-⟩,hfue9⟩ := hfe9
        replace ge9_0 : hasS fX1_0 ver = true → FitWF (FitW ver (d + 2)) ver fX1_0 (y9.at 0) := ge9_0
        have hhe9_0 : hasS fX1_0 ver = true := hasS_t (by show (0 : Int) ≤ ver;omega) (by show (-1 : Int) < 0 ∨ ver ≤ (-1 : Int);omega)
        replace ge9_0 := ge9_0 hhe9_0
        replace ge9_1 : hasS fX1_1 ver = true → FitWF (FitW ver (d + 2)) ver fX1_1 (y9.at 1) := ge9_1
        have hhe9_1 : hasS fX1_1 ver = true := hasS_t (by show (0 : Int) ≤ ver;omega) (by show (-1 : Int) < 0 ∨ ver ≤ (-1 : Int);omega)
        replace ge9_1 := ge9_1 hhe9_1
        obtain ⟨cse9,qe9,hcse9,hLe9,hTe9⟩ := hRe9.inv
        obtain ⟨ce9_0,ee9_0,rfl,he9_0,ce9_1,ee9_1,rfl,he9_1,rfl⟩ := hLe9
        replace he9_0 : RepF (RepS true (d + 2)) (szS true (d + 2)) fX1_0 okM w (y9.at 0) ce9_0 := he9_0
        replace he9_1 : RepF (RepS true (d + 2)) (szS true (d + 2)) fX1_1 okM w (y9.at 1) ce9_1 := he9_1
        obtain rfl := (RepF_uuid rfl).1 he9_0
        have hx16e9_0 : ((uuidS (y9.at 0).s).map byteV).length = 16 := by rw [List.length_map,uuidS_len]
        have hfxe9_0 := flat_bytes (uuidS (y9.at 0).s)
        generalize hXe9_0 : (uuidS (y9.at 0).s).map byteV = Ze9_0 at *
        obtain ⟨ze9_0_0,ze9_0_1,ze9_0_2,ze9_0_3,ze9_0_4,ze9_0_5,ze9_0_6,ze9_0_7,ze9_0_8,ze9_0_9,ze9_0_10,ze9_0_11,ze9_0_12,ze9_0_13,ze9_0_14,ze9_0_15,rfl⟩ := list16 hx16e9_0
        simp only [List.all_cons,List.all_nil,Bool.and_true,Bool.and_eq_true] at hfxe9_0
        obtain ⟨fze9_0_0,fze9_0_1,fze9_0_2,fze9_0_3,fze9_0_4,fze9_0_5,fze9_0_6,fze9_0_7,fze9_0_8,fze9_0_9,fze9_0_10,fze9_0_11,fze9_0_12,fze9_0_13,fze9_0_14,fze9_0_15⟩ := hfxe9_0
        obtain ⟨pe9_1,rfl,hse9_1⟩ := RepF_listW ge9_1 rfl (by decide) he9_1
        obtain ⟨abe9_1,ace9_1,rfl,_⟩ := SlR.shape hse9_1
        have hlle9_1 := (ge9_1.list rfl).1
        obtain ⟨qme9,rfl⟩ := hTe9.shape
        subst hcse9
        have hq9_0 : x9.1[o9 + j9 * 18]? = some (ze9_0_0) := hq9 0 (by decide)
        have hq9_1 : x9.1[o9 + (j9 * 18 + 1)]? = some (ze9_0_1) := hq9 1 (by decide)
        have hq9_2 : x9.1[o9 + (j9 * 18 + 2)]? = some (ze9_0_2) := hq9 2 (by decide)
        have hq9_3 : x9.1[o9 + (j9 * 18 + 3)]? = some (ze9_0_3) := hq9 3 (by decide)
        have hq9_4 : x9.1[o9 + (j9 * 18 + 4)]? = some (ze9_0_4) := hq9 4 (by decide)
        have hq9_5 : x9.1[o9 + (j9 * 18 + 5)]? = some (ze9_0_5) := hq9 5 (by decide)
        have hq9_6 : x9.1[o9 + (j9 * 18 + 6)]? = some (ze9_0_6) := hq9 6 (by decide)
        have hq9_7 : x9.1[o9 + (j9 * 18 + 7)]? = some (ze9_0_7) := hq9 7 (by decide)
        have hq9_8 : x9.1[o9 + (j9 * 18 + 8)]? = some (ze9_0_8) := hq9 8 (by decide)
        have hq9_9 : x9.1[o9 + (j9 * 18 + 9)]? = some (ze9_0_9) := hq9 9 (by decide)
        have hq9_10 : x9.1[o9 + (j9 * 18 + 10)]? = some (ze9_0_10) := hq9 10 (by decide)
        have hq9_11 : x9.1[o9 + (j9 * 18 + 11)]? = some (ze9_0_11) := hq9 11 (by decide)
        have hq9_12 : x9.1[o9 + (j9 * 18 + 12)]? = some (ze9_0_12) := hq9 12 (by decide)
        have hq9_13 : x9.1[o9 + (j9 * 18 + 13)]? = some (ze9_0_13) := hq9 13 (by decide)
        have hq9_14 : x9.1[o9 + (j9 * 18 + 14)]? = some (ze9_0_14) := hq9 14 (by decide)
        have hq9_15 : x9.1[o9 + (j9 * 18 + 15)]? = some (ze9_0_15) := hq9 15 (by decide)
        have hq9_16 : x9.1[o9 + (j9 * 18 + 16)]? = some (.slice abe9_1 (y9.at 1).l.length ace9_1) := hq9 16 (by decide)
        have hq9_17 : x9.1[o9 + (j9 * 18 + 17)]? = some (.map qme9) := hq9 17 (by decide)
        have hxu9_0 : cellsAt x9.1 (o9 + j9 * 18) 16 = some (.agg #[ze9_0_0,ze9_0_1,ze9_0_2,ze9_0_3,ze9_0_4,ze9_0_5,ze9_0_6,ze9_0_7,ze9_0_8,ze9_0_9,ze9_0_10,ze9_0_11,ze9_0_12,ze9_0_13,ze9_0_14,ze9_0_15]) := by
          refine cellsAt_of (l := [ze9_0_0,ze9_0_1,ze9_0_2,ze9_0_3,ze9_0_4,ze9_0_5,ze9_0_6,ze9_0_7,ze9_0_8,ze9_0_9,ze9_0_10,ze9_0_11,ze9_0_12,ze9_0_13,ze9_0_14,ze9_0_15]) (fun j hj => ?_) rfl (by omega)
          rw [show o9 + j9 * 18 + j = o9 + (j9 * 18 + (0 + j)) by omega]
          exact (hq9 (0 + j) (by omega)).trans (get_mid (pre := []) (xs := [ze9_0_0,ze9_0_1,ze9_0_2,ze9_0_3,ze9_0_4,ze9_0_5,ze9_0_6,ze9_0_7,ze9_0_8,ze9_0_9,ze9_0_10,ze9_0_11,ze9_0_12,ze9_0_13,ze9_0_14,ze9_0_15]) (post := [.slice abe9_1 (y9.at 1).l.length ace9_1,.map qme9]) hj)
        obtain ⟨Xe9_0,hXXe9_0⟩ : ∃ X,X = uuidS (y9.at 0).s := ⟨_,rfl⟩
        obtain ⟨XLe9_1,hXLe9_1⟩ : ∃ X,X = uvarS ((y9.at 1).l.length + 1) := ⟨_,rfl⟩
        obtain ⟨XEe9_1,hXEe9_1⟩ : ∃ X,X = (y9.at 1).l.flatMap (fun x : Tree => fixedS x.n 4) := ⟨_,rfl⟩
        obtain ⟨XUe9,hXUe9⟩ : ∃ X,X = uvarS y9.u.length := ⟨_,rfl⟩
        obtain ⟨XTe9,hXTe9⟩ : ∃ X,X = y9.u.flatMap oneTag := ⟨_,rfl⟩
        have hPe9 : partS (d + 3) fs_X1 ver true y9 = (Xe9_0 ++ ((XLe9_1 ++ XEe9_1) ++ [])) ++ (XUe9 ++ XTe9) := by rw [hXUe9,hXTe9];exact partS_yes rfl hfue9 (plainL_has (by decide) hhe9_0 ((fieldS_uuid rfl).trans hXXe9_0.symm) (plainL_has (by decide) hhe9_1 ((fieldS_list_t (g := (fun x : Tree => fixedS x.n 4)) ge9_1 rfl (by decide) (fun x _ => valueS_num 3 (by decide))).trans (by rw [hXLe9_1,hXEe9_1])) rfl))
        rw [hPe9] at htl9
        simp only [List.length_append,List.length_nil] at htl9
        have hcze9_0 : cellsAt #[ze9_0_0,ze9_0_1,ze9_0_2,ze9_0_3,ze9_0_4,ze9_0_5,ze9_0_6,ze9_0_7,ze9_0_8,ze9_0_9,ze9_0_10,ze9_0_11,ze9_0_12,ze9_0_13,ze9_0_14,ze9_0_15] 0 16 = some (.agg #[ze9_0_0,ze9_0_1,ze9_0_2,ze9_0_3,ze9_0_4,ze9_0_5,ze9_0_6,ze9_0_7,ze9_0_8,ze9_0_9,ze9_0_10,ze9_0_11,ze9_0_12,ze9_0_13,ze9_0_14,ze9_0_15]) := cellsAt_full rfl
        repeat ((first | refine qA rfl ?_|refine qB ?_|refine qC rfl ?_|refine qD ?_|refine qE ?_|refine qF ?_|refine qG ?_|refine qH ?_);try simp (maxSteps:=1000000)(disch:=(first|omega|(simp only [qI,qJ,qK]<;>omega)|exact qL _)) only [go_sem,↓reduceIte,n0,reduceCtorEq,n1,n2,n3,n4,n5,i0,i1,i2,i3,i4,i5,i6,i7,hv_33,hx9_33,Int.toNat_natCast,Nat.mul_one,hq9_0,hq9_1,hq9_2,hq9_3,hq9_4,hq9_5,hq9_6,hq9_7,hq9_8,hq9_9,hq9_10,hq9_11,hq9_12,hq9_13,hq9_14,hq9_15,hq9_16,hq9_17,fze9_0_0,fze9_0_1,fze9_0_2,fze9_0_3,fze9_0_4,fze9_0_5,fze9_0_6,fze9_0_7,fze9_0_8,fze9_0_9,fze9_0_10,fze9_0_11,fze9_0_12,fze9_0_13,fze9_0_14,fze9_0_15,hxu9_0,hr1_9,hr9_0,hr9_5,hr9_6,hI9,hN9,hS9,hcze9_0])
        generalize hwu34 : wr (w33.alloc (.cells #[.int .u8 0,.int .u8 0,.int .u8 0,.int .u8 0,.int .u8 0,.int .u8 0,.int .u8 0,.int .u8 0,.int .u8 0,.int .u8 0,.int .u8 0,.int .u8 0,.int .u8 0,.int .u8 0,.int .u8 0,.int .u8 0] 75)) w33.heap.size 0 [ze9_0_0,ze9_0_1,ze9_0_2,ze9_0_3,ze9_0_4,ze9_0_5,ze9_0_6,ze9_0_7,ze9_0_8,ze9_0_9,ze9_0_10,ze9_0_11,ze9_0_12,ze9_0_13,ze9_0_14,ze9_0_15] = w34
        have hEu34 : Ext w33 w34 := by rw [← hwu34];exact (Upd.alloc (Upd.refl _ _) _).wr _ _ (.inl (Nat.le_refl _))
        clear hwu34
        have ha34 := ha33.then hEu34
        have hB34 : B ≤ w34.heap.size := Nat.le_trans hB ha34.upd.size
        have hv_34 := ha34.upd.blk_some hv hdv
        have hx9_34 := ha34.upd.blk_some hx9 hnx9
        have hu34 := AppendUuid_fn r33 _ w34 ha34.own hB34 (uuidS (y9.at 0).s) (uuidS_len _) (by simp only [List.length_append,List.length_nil];omega)
        rw [hXe9_0,← hXXe9_0] at hu34
        refine (hu34).mono ?_
        rintro r35 w35 hc35
        have ha35 := ha34.trans hc35
        have hB35 : B ≤ w35.heap.size := Nat.le_trans hB ha35.upd.size
        have hv_35 := ha35.upd.blk_some hv hdv
        have hx9_35 := ha35.upd.blk_some hx9 hnx9
        repeat ((first | refine qA rfl ?_|refine qB ?_|refine qC rfl ?_|refine qD ?_|refine qE ?_|refine qF ?_|refine qG ?_|refine qH ?_);try simp (maxSteps:=1000000)(disch:=(first|omega|(simp only [qI,qJ,qK]<;>omega)|exact qL _)) only [go_sem,↓reduceIte,n0,reduceCtorEq,n1,n2,n3,n4,n5,i0,i1,i2,i3,i4,i5,i6,i7,hv_35,hx9_35,Int.toNat_natCast,Nat.mul_one,hq9_0,hq9_1,hq9_2,hq9_3,hq9_4,hq9_5,hq9_6,hq9_7,hq9_8,hq9_9,hq9_10,hq9_11,hq9_12,hq9_13,hq9_14,hq9_15,hq9_16,hq9_17,fze9_0_0,fze9_0_1,fze9_0_2,fze9_0_3,fze9_0_4,fze9_0_5,fze9_0_6,fze9_0_7,fze9_0_8,fze9_0_9,fze9_0_10,fze9_0_11,fze9_0_12,fze9_0_13,fze9_0_14,fze9_0_15,hxu9_0,hr1_9,hr9_0,hr9_5,hr9_6,hI9,hN9,hS9])
        refine (AppendCompactArrayLen_fn _ _ _ ha35.own hB35 (y9.at 1).l.length hlle9_1 (by simp only [List.length_append,List.length_nil];omega)).mono ?_
        rintro r36 w36 hc36
        rw [← hXLe9_1] at hc36
        have ha36 := ha35.trans hc36
        have hB36 : B ≤ w36.heap.size := Nat.le_trans hB ha36.upd.size
        have hv_36 := ha36.upd.blk_some hv hdv
        have hx9_36 := ha36.upd.blk_some hx9 hnx9
        repeat ((first | refine qA rfl ?_|refine qB ?_|refine qC rfl ?_|refine qD ?_|refine qE ?_|refine qF ?_|refine qG ?_|refine qH ?_);try simp (maxSteps:=1000000)(disch:=(first|omega|(simp only [qI,qJ,qK]<;>omega)|exact qL _)) only [go_sem,↓reduceIte,n0,reduceCtorEq,n1,n2,n3,n4,n5,i0,i1,i2,i3,i4,i5,i6,i7,hv_36,hx9_36,Int.toNat_natCast,Nat.mul_one,hq9_0,hq9_1,hq9_2,hq9_3,hq9_4,hq9_5,hq9_6,hq9_7,hq9_8,hq9_9,hq9_10,hq9_11,hq9_12,hq9_13,hq9_14,hq9_15,hq9_16,hq9_17,fze9_0_0,fze9_0_1,fze9_0_2,fze9_0_3,fze9_0_4,fze9_0_5,fze9_0_6,fze9_0_7,fze9_0_8,fze9_0_9,fze9_0_10,fze9_0_11,fze9_0_12,fze9_0_13,fze9_0_14,fze9_0_15,hxu9_0,hr1_9,hr9_0,hr9_5,hr9_6,hI9,hN9,hS9])
        have hadd10 := ha36
        refine W.exitJ 10 (fun ρ w' => ∃ r,ρ 1 = r ∧ ρ 0 = .pointer (some ⟨vb,0,none⟩) ∧ ρ 5 = .int .i16 ver ∧ ρ 6 = .bool true ∧ ρ 325 = .int .i64 j9 ∧ ρ 324 = .int .i64 (t.at 11).l.length ∧ ρ 34 = .slice (some ⟨b9,o9,none⟩) (t.at 11).l.length ac_11 ∧ ρ 36 = .pointer (some ⟨b9,o9 + j9 * 18,none⟩) ∧ AppR 5 B w v s (([] ++ X_0 ++ X_1 ++ X_2 ++ X_3 ++ X_4 ++ X_5 ++ XL_10 ++ XE_10 ++ XL_11 ++ T9 ++ Xe9_0 ++ XLe9_1) ++ XEe9_1) r w')
          (W.loop (fun ρ w' => ∃ (j : Nat) (r : Value),j ≤ (y9.at 1).l.length ∧ ρ 353 = .int .i64 j ∧ ρ 352 = .int .i64 (y9.at 1).l.length ∧ ρ 38 = .slice abe9_1 (y9.at 1).l.length ace9_1 ∧ ρ 1 = r ∧ ρ 0 = .pointer (some ⟨vb,0,none⟩) ∧ ρ 5 = .int .i16 ver ∧ ρ 6 = .bool true ∧ ρ 325 = .int .i64 j9 ∧ ρ 324 = .int .i64 (t.at 11).l.length ∧ ρ 34 = .slice (some ⟨b9,o9,none⟩) (t.at 11).l.length ac_11 ∧ ρ 36 = .pointer (some ⟨b9,o9 + j9 * 18,none⟩) ∧ AppR 5 B w v s (([] ++ X_0 ++ X_1 ++ X_2 ++ X_3 ++ X_4 ++ X_5 ++ XL_10 ++ XE_10 ++ XL_11 ++ T9 ++ Xe9_0 ++ XLe9_1) ++ ((y9.at 1).l.take j).flatMap (fun x : Tree => fixedS x.n 4)) r w')
            (fun ρ _ => (y9.at 1).l.length - (RowKit.intOf (ρ 353)).toNat) ?_ ?_) ?_
        · refine ⟨0,_,Nat.zero_le _,?_,?_,?_,?_,?_,?_,?_,?_,?_,?_,?_,ha36.eqs (by rw [List.take_zero,List.flatMap_nil,List.append_nil])⟩ <;> simp (maxSteps:=1000000)(disch:=(first|omega|(simp only [qI,qJ,qK]<;>omega)|exact qL _)) only [go_sem,↓reduceIte,n0,reduceCtorEq,n1,n2,n3,n4,n5,i0,i1,i2,i3,i4,i5,i6,i7,hr1_9,hr9_0,hr9_5,hr9_6,hI9,hN9,hS9]
          all_goals rfl
        · rintro ρ w37 ⟨j10,r37,hj10,hI10,hN10,hS10,hr1_10,hr10_0,hr10_5,hr10_6,hr10_325,hr10_324,hr10_34,hr10_36,ha37⟩
          have hB37 : B ≤ w37.heap.size := Nat.le_trans hB ha37.upd.size
          have hv_37 := ha37.upd.blk_some hv hdv
          have hx9_37 := ha37.upd.blk_some hx9 hnx9
          by_cases hlt10 : j10 < (y9.at 1).l.length
          · obtain ⟨_,b10,o10,x10,ce10,hb10,hok10,hx10,hbl10,hxs10,hxe10,hq10,hRe10⟩ := SlR.get (size := 1) (by decide) hse9_1 hlt10
            subst hb10
            have hcat10 : (y9.at 1).l.take (j10 + 1) = (y9.at 1).l.take j10 ++ [(y9.at 1).l[j10]] := List.take_succ_eq_append_getElem hlt10
            have htl10 := take_flatMap_len (y9.at 1).l (fun x : Tree => fixedS x.n 4) (j10 + 1)
            rw [← hXEe9_1,hcat10,List.flatMap_append,List.flatMap_cons,List.flatMap_nil,List.append_nil] at htl10
            have hge10 := (ge9_1.list rfl).2 _ (List.getElem_mem hlt10)
            generalize (y9.at 1).l[j10] = y10 at *
            have hnx10 := hd b10 hbl10 hok10
            obtain ⟨T10,hTT10⟩ : ∃ T,T = ((y9.at 1).l.take j10).flatMap (fun x : Tree => fixedS x.n 4) := ⟨_,rfl⟩
            rw [← hTT10] at ha37 htl10
            have hx10_37 := ha37.upd.blk_some hx10 hnx10
            obtain rfl := (Rep1_num (by decide)).1 hRe10
            have hq10_0 : x10.1[o10 + j10]? = some (.int .i32 (IntKind.i32.wrap y10.n)) := by have := hq10 0 (by decide);rw [Nat.mul_one] at this;exact this
            obtain ⟨Y10,hY10⟩ : ∃ Y,Y = fixedS (y10).n 4 := ⟨_,rfl⟩
            replace htl10 : (T10 ++ Y10).length ≤ XEe9_1.length := by rw [hY10];exact htl10
            simp only [List.length_append] at htl10
            repeat ((first | refine qA rfl ?_|refine qB ?_|refine qC rfl ?_|refine qD ?_|refine qE ?_|refine qF ?_|refine qG ?_|refine qH ?_);try simp (maxSteps:=1000000)(disch:=(first|omega|(simp only [qI,qJ,qK]<;>omega)|exact qL _)) only [go_sem,↓reduceIte,n0,reduceCtorEq,n1,n2,n3,n4,n5,i0,i1,i2,i3,i4,i5,i6,i7,hv_37,hx9_37,hx10_37,Int.toNat_natCast,Nat.mul_one,hq9_0,hq9_1,hq9_2,hq9_3,hq9_4,hq9_5,hq9_6,hq9_7,hq9_8,hq9_9,hq9_10,hq9_11,hq9_12,hq9_13,hq9_14,hq9_15,hq9_16,hq9_17,fze9_0_0,fze9_0_1,fze9_0_2,fze9_0_3,fze9_0_4,fze9_0_5,fze9_0_6,fze9_0_7,fze9_0_8,fze9_0_9,fze9_0_10,fze9_0_11,fze9_0_12,fze9_0_13,fze9_0_14,fze9_0_15,hxu9_0,hq10_0,hr1_10,hr10_0,hr10_5,hr10_6,hr10_325,hr10_324,hr10_34,hr10_36,hI10,hN10,hS10])
            refine (AppendInt32_fn _ _ _ ha37.own hB37 _ (by simp only [List.length_append,List.length_nil];omega)).mono ?_
            rintro r38 w38 hc38
            rw [wrap32,← hY10] at hc38
            have ha38 := ha37.trans hc38
            have hB38 : B ≤ w38.heap.size := Nat.le_trans hB ha38.upd.size
            have hv_38 := ha38.upd.blk_some hv hdv
            have hx9_38 := ha38.upd.blk_some hx9 hnx9
            have hx10_38 := ha38.upd.blk_some hx10 hnx10
            repeat ((first | refine qA rfl ?_|refine qB ?_|refine qC rfl ?_|refine qD ?_|refine qE ?_|refine qF ?_|refine qG ?_|refine qH ?_);try simp (maxSteps:=1000000)(disch:=(first|omega|(simp only [qI,qJ,qK]<;>omega)|exact qL _)) only [go_sem,↓reduceIte,n0,reduceCtorEq,n1,n2,n3,n4,n5,i0,i1,i2,i3,i4,i5,i6,i7,hr1_10,hr10_0,hr10_5,hr10_6,hr10_325,hr10_324,hr10_34,hr10_36,hI10,hN10,hS10])
            refine ⟨⟨j10 + 1,_,by omega,rfl,rfl,ha38.eqs ?_⟩,?_⟩
            · rw [hcat10,List.flatMap_append,List.flatMap_cons,List.flatMap_nil,List.append_nil,← hTT10,hY10];simp only [List.append_assoc,List.append_nil,List.nil_append]
            · simp only [RowKit.intOf];omega
          · have hjl10 : j10 = (y9.at 1).l.length := by omega
            subst hjl10
            rw [List.take_length,← hXEe9_1] at ha37
            repeat ((first | refine qA rfl ?_|refine qB ?_|refine qC rfl ?_|refine qD ?_|refine qE ?_|refine qF ?_|refine qG ?_|refine qH ?_);try simp (maxSteps:=1000000)(disch:=(first|omega|(simp only [qI,qJ,qK]<;>omega)|exact qL _)) only [go_sem,↓reduceIte,n0,reduceCtorEq,n1,n2,n3,n4,n5,i0,i1,i2,i3,i4,i5,i6,i7,hI10,hN10])
            exact ⟨_,hr1_10,hr10_0,hr10_5,hr10_6,hr10_325,hr10_324,hr10_34,hr10_36,ha37⟩
        · rintro ρ w39 ⟨r39,hr1_11,hr11_0,hr11_5,hr11_6,hr11_325,hr11_324,hr11_34,hr11_36,ha39⟩
          have hB39 : B ≤ w39.heap.size := Nat.le_trans hB ha39.upd.size
          have hv_39 := ha39.upd.blk_some hv hdv
          have hx9_39 := ha39.upd.blk_some hx9 hnx9
          repeat ((first | refine qA rfl ?_|refine qB ?_|refine qC rfl ?_|refine qD ?_|refine qE ?_|refine qF ?_|refine qG ?_|refine qH ?_);try simp (maxSteps:=1000000)(disch:=(first|omega|(simp only [qI,qJ,qK]<;>omega)|exact qL _)) only [go_sem,↓reduceIte,n0,reduceCtorEq,n1,n2,n3,n4,n5,i0,i1,i2,i3,i4,i5,i6,i7,hv_39,hx9_39,Int.toNat_natCast,Nat.mul_one,hq9_0,hq9_1,hq9_2,hq9_3,hq9_4,hq9_5,hq9_6,hq9_7,hq9_8,hq9_9,hq9_10,hq9_11,hq9_12,hq9_13,hq9_14,hq9_15,hq9_16,hq9_17,fze9_0_0,fze9_0_1,fze9_0_2,fze9_0_3,fze9_0_4,fze9_0_5,fze9_0_6,fze9_0_7,fze9_0_8,fze9_0_9,fze9_0_10,fze9_0_11,fze9_0_12,fze9_0_13,fze9_0_14,fze9_0_15,hxu9_0,hr1_11,hr11_0,hr11_5,hr11_6,hr11_325,hr11_324,hr11_34,hr11_36])
          have hTk39 : TagsM (OkS okM w.heap.size) w39 (.map qme9) y9.u := (hTe9.weaken fun b h1 h2 => ⟨h2,h1⟩).keep (ha39.upd.keeps fun b hb hk => hd b hb hk.1)
          refine (TagsLen_fn (ok := OkS okM w.heap.size) w39 hx9_39 (to := o9 + (j9 * 18 + 17)) hq9_17 hTk39).mono ?_
          rintro _ w39' ⟨rfl,rfl⟩
          have hul39 : y9.u.length ≤ 32767 := hfue9.1
          have ew39 : IntKind.u32.wrap (y9.u.length : Int) = y9.u.length := u32_wrap (by omega)
          have ez39 : IntKind.u32.wrap (0 + (y9.u.length : Int)) = y9.u.length := by rw [Int.zero_add,u32_wrap (by omega)]
          simp (maxSteps:=1000000)(disch:=(first|omega|(simp only [qI,qJ,qK]<;>omega)|exact qL _)) only [go_sem,↓reduceIte,n0,reduceCtorEq,n1,n2,n3,n4,n5,i0,i1,i2,i3,i4,i5,i6,i7,hv_39,hx9_39,Int.toNat_natCast,Nat.mul_one,hq9_0,hq9_1,hq9_2,hq9_3,hq9_4,hq9_5,hq9_6,hq9_7,hq9_8,hq9_9,hq9_10,hq9_11,hq9_12,hq9_13,hq9_14,hq9_15,hq9_16,hq9_17,fze9_0_0,fze9_0_1,fze9_0_2,fze9_0_3,fze9_0_4,fze9_0_5,fze9_0_6,fze9_0_7,fze9_0_8,fze9_0_9,fze9_0_10,fze9_0_11,fze9_0_12,fze9_0_13,fze9_0_14,fze9_0_15,hxu9_0,hr1_11,hr11_0,hr11_5,hr11_6,hr11_325,hr11_324,hr11_34,hr11_36,ew39,ez39]
          refine (AppendUvarint_fn _ _ _ ha39.own hB39 y9.u.length (by omega) (by simp only [List.length_append,List.length_nil];omega)).mono ?_
          rintro r40 w40 hc40
          rw [← hXUe9] at hc40
          have ha40 := ha39.trans hc40
          have hB40 : B ≤ w40.heap.size := Nat.le_trans hB ha40.upd.size
          have hv_40 := ha40.upd.blk_some hv hdv
          have hx9_40 := ha40.upd.blk_some hx9 hnx9
          repeat ((first | refine qA rfl ?_|refine qB ?_|refine qC rfl ?_|refine qD ?_|refine qE ?_|refine qF ?_|refine qG ?_|refine qH ?_);try simp (maxSteps:=1000000)(disch:=(first|omega|(simp only [qI,qJ,qK]<;>omega)|exact qL _)) only [go_sem,↓reduceIte,n0,reduceCtorEq,n1,n2,n3,n4,n5,i0,i1,i2,i3,i4,i5,i6,i7,hv_40,hx9_40,Int.toNat_natCast,Nat.mul_one,hq9_0,hq9_1,hq9_2,hq9_3,hq9_4,hq9_5,hq9_6,hq9_7,hq9_8,hq9_9,hq9_10,hq9_11,hq9_12,hq9_13,hq9_14,hq9_15,hq9_16,hq9_17,fze9_0_0,fze9_0_1,fze9_0_2,fze9_0_3,fze9_0_4,fze9_0_5,fze9_0_6,fze9_0_7,fze9_0_8,fze9_0_9,fze9_0_10,fze9_0_11,fze9_0_12,fze9_0_13,fze9_0_14,fze9_0_15,hxu9_0,hr1_11,hr11_0,hr11_5,hr11_6,hr11_325,hr11_324,hr11_34,hr11_36])
          have hTk40 : TagsM (OkS okM w.heap.size) w40 (.map qme9) y9.u := (hTe9.weaken fun b h1 h2 => ⟨h2,h1⟩).keep (ha40.upd.keeps fun b hb hk => hd b hb hk.1)
          refine (AppendEach_fn (ok := OkS okM w.heap.size) _ _ _ ha40.own hB40 hx9_40 (to := o9 + (j9 * 18 + 17)) hq9_17 hTk40 (rising_keys hfue9) hfue9.1 (tags_small hfue9 hTk40) (hdK ha40) (ownK ha40 (blk_lt hx9) hnx9) (by simp only [List.length_append,List.length_nil];omega)).mono ?_
          rintro r41 w41 hc41
          rw [← hXTe9] at hc41
          have ha41 := ha40.trans hc41
          have hB41 : B ≤ w41.heap.size := Nat.le_trans hB ha41.upd.size
          have hv_41 := ha41.upd.blk_some hv hdv
          have hx9_41 := ha41.upd.blk_some hx9 hnx9
          repeat ((first | refine qA rfl ?_|refine qB ?_|refine qC rfl ?_|refine qD ?_|refine qE ?_|refine qF ?_|refine qG ?_|refine qH ?_);try simp (maxSteps:=1000000)(disch:=(first|omega|(simp only [qI,qJ,qK]<;>omega)|exact qL _)) only [go_sem,↓reduceIte,n0,reduceCtorEq,n1,n2,n3,n4,n5,i0,i1,i2,i3,i4,i5,i6,i7,hr1_11,hr11_0,hr11_5,hr11_6,hr11_325,hr11_324,hr11_34,hr11_36])
          refine ⟨⟨j9 + 1,_,by omega,rfl,rfl,ha41.eqs ?_⟩,?_⟩
          · rw [hcat9,List.flatMap_append,List.flatMap_cons,List.flatMap_nil,List.append_nil,← hTT9,hPe9];simp only [List.append_assoc,List.append_nil,List.nil_append]
          · simp only [RowKit.intOf];omega
      · have hjl9 : j9 = (t.at 11).l.length := by omega
        subst hjl9
        rw [List.take_length,← hXE_11] at ha33
        repeat ((first | refine qA rfl ?_|refine qB ?_|refine qC rfl ?_|refine qD ?_|refine qE ?_|refine qF ?_|refine qG ?_|refine qH ?_);try simp (maxSteps:=1000000)(disch:=(first|omega|(simp only [qI,qJ,qK]<;>omega)|exact qL _)) only [go_sem,↓reduceIte,n0,reduceCtorEq,n1,n2,n3,n4,n5,i0,i1,i2,i3,i4,i5,i6,i7,hI9,hN9])
        exact ⟨_,hr1_9,hr9_0,hr9_5,hr9_6,ha33⟩
    · rintro ρ w42 ⟨r42,hr1_12,hr12_0,hr12_5,hr12_6,ha42⟩
      have hB42 : B ≤ w42.heap.size := Nat.le_trans hB ha42.upd.size
      have hv_42 := ha42.upd.blk_some hv hdv
      repeat ((first | refine qA rfl ?_|refine qB ?_|refine qC rfl ?_|refine qD ?_|refine qE ?_|refine qF ?_|refine qG ?_|refine qH ?_);try simp (maxSteps:=1000000)(disch:=(first|omega|(simp only [qI,qJ,qK]<;>omega)|exact qL _)) only [go_sem,↓reduceIte,n0,reduceCtorEq,n1,n2,n3,n4,n5,i0,i1,i2,i3,i4,i5,i6,i7,hv_42,hr1_12,hr12_0,hr12_5,hr12_6])
      have hTk42 : TagsM (OkS okM w.heap.size) w42 (.map qm) t.u := (hT.weaken fun b h1 h2 => ⟨h2,h1⟩).keep (ha42.upd.keeps fun b hb hk => hd b hb hk.1)
      refine (TagsLen_fn (ok := OkS okM w.heap.size) w42 hv_42 (to := 13) (show (#[.int .i16 ver,p_0,p_1,.int .i32 (IntKind.i32.wrap (t.at 2).n),.int .i32 (IntKind.i32.wrap (t.at 3).n),.int .i32 (IntKind.i32.wrap (t.at 4).n),.int .i32 (IntKind.i32.wrap (t.at 5).n),.int .i32 (IntKind.i32.wrap (t.at 6).n),.int .i32 (IntKind.i32.wrap (t.at 7).n),.int .i8 (IntKind.i8.wrap (t.at 8).n),.bool (decide ((t.at 9).n % 2 = 1)),.slice ab_10 (t.at 10).l.length ac_10,.slice ab_11 (t.at 11).l.length ac_11,.map qm] : Array Value)[13]? = some (.map qm) from rfl) hTk42).mono ?_
      rintro _ w42' ⟨rfl,rfl⟩
      have hul42 : t.u.length ≤ 32767 := hfu.1
      have ew42 : IntKind.u32.wrap (t.u.length : Int) = t.u.length := u32_wrap (by omega)
      have ez42 : IntKind.u32.wrap (0 + (t.u.length : Int)) = t.u.length := by rw [Int.zero_add,u32_wrap (by omega)]
      simp (maxSteps:=1000000)(disch:=(first|omega|(simp only [qI,qJ,qK]<;>omega)|exact qL _)) only [go_sem,↓reduceIte,n0,reduceCtorEq,n1,n2,n3,n4,n5,i0,i1,i2,i3,i4,i5,i6,i7,hv_42,hr1_12,hr12_0,hr12_5,hr12_6,ew42,ez42]
      refine (AppendUvarint_fn _ _ _ ha42.own hB42 t.u.length (by omega) (by simp only [List.length_append,List.length_nil];omega)).mono ?_
      rintro r43 w43 hc43
      rw [← hXU] at hc43
      have ha43 := ha42.trans hc43
      have hB43 : B ≤ w43.heap.size := Nat.le_trans hB ha43.upd.size
      have hv_43 := ha43.upd.blk_some hv hdv
      repeat ((first | refine qA rfl ?_|refine qB ?_|refine qC rfl ?_|refine qD ?_|refine qE ?_|refine qF ?_|refine qG ?_|refine qH ?_);try simp (maxSteps:=1000000)(disch:=(first|omega|(simp only [qI,qJ,qK]<;>omega)|exact qL _)) only [go_sem,↓reduceIte,n0,reduceCtorEq,n1,n2,n3,n4,n5,i0,i1,i2,i3,i4,i5,i6,i7,hv_43,hr1_12,hr12_0,hr12_5,hr12_6])
      have hTk43 : TagsM (OkS okM w.heap.size) w43 (.map qm) t.u := (hT.weaken fun b h1 h2 => ⟨h2,h1⟩).keep (ha43.upd.keeps fun b hb hk => hd b hb hk.1)
      refine (AppendEach_fn (ok := OkS okM w.heap.size) _ _ _ ha43.own hB43 hv_43 (to := 13) (show (#[.int .i16 ver,p_0,p_1,.int .i32 (IntKind.i32.wrap (t.at 2).n),.int .i32 (IntKind.i32.wrap (t.at 3).n),.int .i32 (IntKind.i32.wrap (t.at 4).n),.int .i32 (IntKind.i32.wrap (t.at 5).n),.int .i32 (IntKind.i32.wrap (t.at 6).n),.int .i32 (IntKind.i32.wrap (t.at 7).n),.int .i8 (IntKind.i8.wrap (t.at 8).n),.bool (decide ((t.at 9).n % 2 = 1)),.slice ab_10 (t.at 10).l.length ac_10,.slice ab_11 (t.at 11).l.length ac_11,.map qm] : Array Value)[13]? = some (.map qm) from rfl) hTk43 (rising_keys hfu) hfu.1 (tags_small hfu hTk43) (hdK ha43) (ownK ha43 (blk_lt hv) hdv) (by simp only [List.length_append,List.length_nil];omega)).mono ?_
      rintro r44 w44 hc44
      rw [← hXT] at hc44
      have ha44 := ha43.trans hc44
      have hB44 : B ≤ w44.heap.size := Nat.le_trans hB ha44.upd.size
      have hv_44 := ha44.upd.blk_some hv hdv
      repeat ((first | refine qA rfl ?_|refine qB ?_|refine qC rfl ?_|refine qD ?_|refine qE ?_|refine qF ?_|refine qG ?_|refine qH ?_);try simp (maxSteps:=1000000)(disch:=(first|omega|(simp only [qI,qJ,qK]<;>omega)|exact qL _)) only [go_sem,↓reduceIte,n0,reduceCtorEq,n1,n2,n3,n4,n5,i0,i1,i2,i3,i4,i5,i6,i7,hv_44,hr1_12,hr12_0,hr12_5,hr12_6])
      refine ha44.eqs ?_
      rw [hP];simp only [List.append_assoc,List.append_nil,List.nil_append]
end Ms

