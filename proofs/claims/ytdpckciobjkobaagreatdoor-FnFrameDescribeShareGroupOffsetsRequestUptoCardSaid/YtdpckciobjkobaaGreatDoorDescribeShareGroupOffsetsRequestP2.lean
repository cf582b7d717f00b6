/- A part of the proof: see the last text. -/
import Derived.Test.YtdpckciobjkobaaGreatDoorC03
import Derived.Test.YtdpckciobjkobaaGreatDoorC06
import Derived.Test.YtdpckciobjkobaaGreatDoorC07
import Derived.Test.YtdpckciobjkobaaGreatDoorC09
import Derived.Test.YtdpckciobjkobaaGreatDoorC10
import Derived.Test.YtdpckciobjkobaaGreatDoorC11
import Derived.Test.YtdpckciobjkobaaGreatDoorDescribeShareGroupOffsetsRequestP0
import Derived.Test.YtdpckciobjkobaaGreatDoorDescribeShareGroupOffsetsRequestP1
set_option linter.unusedSimpArgs false
set_option linter.unusedVariables false
namespace Ms
open Go.World renaming size_alloc → qI
open Ms renaming size_wr → qJ,size_drew → qK,not_noB → qL
open W renaming seqR → qA,seq → qB,regR → qC,condK → qD,block → qE,skip → qF,ret → qG,exit → qH
open Nat renaming reduceEqDiff → n0,reduceAdd → n1,reduceMul → n2,reduceSub → n3,reduceLT → n4,reduceLeDiff → n5
open Int renaming reduceEq → i0,reduceLT → i1,reduceLE → i2,reduceNeg → i3,reduceAdd → i4,reduceSub → i5,reduceMul → i6,reduceToNat → i7
set_option maxRecDepth 8000
open Go Go.Proofs Go.Shelf
attribute [local congr] W_congr WPsq_congr WPp_congr optK_congr addrK_congr intK_congr boolK_congr sliceK_congr tupleK_congr funcK_congr Fn_congr rawK_congr takeK_congr stepK_congr convK_congr aggK_congr

theorem ReadFromDescribeShareGroupOffsetsRequest_fn {d : Nat} {ok : Blocks} {ver : Int} {ev : Value} (hlo : 0 ≤ ver) (hhi : ver ≤ 1) (w : World) {vb : Nat} (src : Value) (s : List UInt8) (hv : blk w vb = some (#[.int .i16 ver,.slice none 0 0,.map none],123,(0,0))) (hsrc : BytesV ok w src s) (hok0 : ∀ b,ok b → b < w.heap.size ∧ b ≠ vb) (hG : Glo ev w) (hgv : ¬ 1 = vb ∧ ¬ 0 = vb) :
    Fn Tryz.prog 91 #[.pointer (some ⟨vb,0,none⟩),src] w (ReadQ 123 ok ver (d + 3) fs_DescribeShareGroupOffsetsRequest vb w (rdP (d + 3) ver (flexB 0 ver) fs_DescribeShareGroupOffsetsRequest (some s)) ev) := by
  obtain ⟨sa,sc,rfl,_⟩ := hsrc.shape
  refine fn_of_W Tryz.func91 rfl Tryz.results91 Tryz.ntmps91 rfl ?_
  repeat ((first | refine qA rfl ?_|refine qB ?_|refine qC rfl ?_|refine qD ?_|refine qE ?_|refine qF ?_|refine qG ?_|refine qH ?_);try simp (maxSteps:=1000000)(disch:=(first|omega|(simp only [qI,qJ,qK]<;>omega)|exact qL _)) only [go_sem,↓reduceIte,n0,reduceCtorEq,n1,n2,n3,n4,n5,i0,i1,i2,i3,i4,i5,i6,i7])
  have hcl : (0 ≤ ver ∧ ver ≤ 1) := by omega
  rcases hcl with ⟨h1,h2⟩
  · have hfl : flexB 0 ver = true := by simp only [flexB,Bool.and_eq_true,decide_eq_true_eq];omega
    rw [hfl]
    refine (readDescribeShareGroupOffsetsRequest_0 (d := d) h1 h2 w _ s hv hsrc hok0 hG hgv).mono ?_
    rintro r5 w5 h5
    repeat ((first | refine qA rfl ?_|refine qB ?_|refine qC rfl ?_|refine qD ?_|refine qE ?_|refine qF ?_|refine qG ?_|refine qH ?_);try simp (maxSteps:=1000000)(disch:=(first|omega|(simp only [qI,qJ,qK]<;>omega)|exact qL _)) only [go_sem,↓reduceIte,n0,reduceCtorEq,n1,n2,n3,n4,n5,i0,i1,i2,i3,i4,i5,i6,i7])
    all_goals exact h5

end Ms

namespace Ms
open Go.World renaming size_alloc → qI
open Ms renaming size_wr → qJ,size_drew → qK,not_noB → qL
open W renaming seqR → qA,seq → qB,regR → qC,condK → qD,block → qE,skip → qF,ret → qG,exit → qH
open Nat renaming reduceEqDiff → n0,reduceAdd → n1,reduceMul → n2,reduceSub → n3,reduceLT → n4,reduceLeDiff → n5
open Int renaming reduceEq → i0,reduceLT → i1,reduceLE → i2,reduceNeg → i3,reduceAdd → i4,reduceSub → i5,reduceMul → i6,reduceToNat → i7
set_option maxRecDepth 4000
open Go Go.Proofs
attribute [local congr] W_congr WPsq_congr WPp_congr optK_congr addrK_congr intK_congr boolK_congr sliceK_congr tupleK_congr funcK_congr Fn_congr rawK_congr takeK_congr stepK_congr convK_congr aggK_congr

theorem AppendNullableArrayLen_fn {B : Nat} (v : Value) (s : List UInt8) (w : World) (ho : OwnBy 5 B w v s) (hB : B ≤ w.heap.size) (n : Nat) (hn : n ≤ 32767) (null : Bool) (hl : s.length ≤ 2 ^ 44) :
    Fn Tryz.prog 254 #[v,.int .i64 n,.bool null] w fun r w' => AppR 5 B w v s (countedS false null n 4) r w' := by
  obtain ⟨a,c,rfl,hc⟩ := ho.len
  refine fn_of_W Tryz.func254 rfl Tryz.results254 Tryz.ntmps254 rfl ?_
  have ew : IntKind.i32.wrap (n : Int) = n := i32_wrap (by omega)
  cases null with
  | true =>
    rw [counted_none]
    repeat ((first | refine qA rfl ?_|refine qB ?_|refine qC rfl ?_|refine qD ?_|refine qE ?_|refine qF ?_|refine qG ?_|refine qH ?_);try simp (maxSteps:=1000000)(disch:=(first|omega|(simp only [qI,qJ,qK]<;>omega)|exact qL _)) only [go_sem,↓reduceIte,n0,reduceCtorEq,n1,n2,n3,n4,n5,i0,i1,i2,i3,i4,i5,i6,i7,ew])
    refine (AppendInt32_fn _ s w ho hB _ (by omega)).mono ?_
    rintro r w1 h1
    repeat ((first | refine qA rfl ?_|refine qB ?_|refine qC rfl ?_|refine qD ?_|refine qE ?_|refine qF ?_|refine qG ?_|refine qH ?_);try simp (maxSteps:=1000000)(disch:=(first|omega|(simp only [qI,qJ,qK]<;>omega)|exact qL _)) only [go_sem,↓reduceIte,n0,reduceCtorEq,n1,n2,n3,n4,n5,i0,i1,i2,i3,i4,i5,i6,i7])
    exact h1
  | false =>
    rw [counted_some]
    repeat ((first | refine qA rfl ?_|refine qB ?_|refine qC rfl ?_|refine qD ?_|refine qE ?_|refine qF ?_|refine qG ?_|refine qH ?_);try simp (maxSteps:=1000000)(disch:=(first|omega|(simp only [qI,qJ,qK]<;>omega)|exact qL _)) only [go_sem,↓reduceIte,n0,reduceCtorEq,n1,n2,n3,n4,n5,i0,i1,i2,i3,i4,i5,i6,i7,ew])
    refine (AppendInt32_fn _ s w ho hB _ (by omega)).mono ?_
    rintro r w1 h1
    repeat ((first | refine qA rfl ?_|refine qB ?_|refine qC rfl ?_|refine qD ?_|refine qE ?_|refine qF ?_|refine qG ?_|refine qH ?_);try simp (maxSteps:=1000000)(disch:=(first|omega|(simp only [qI,qJ,qK]<;>omega)|exact qL _)) only [go_sem,↓reduceIte,n0,reduceCtorEq,n1,n2,n3,n4,n5,i0,i1,i2,i3,i4,i5,i6,i7])
    exact h1

theorem AppendCompactNullableArrayLen_fn {B : Nat} (v : Value) (s : List UInt8) (w : World) (ho : OwnBy 5 B w v s) (hB : B ≤ w.heap.size) (n : Nat) (hn : n ≤ 32767) (null : Bool) (hl : s.length ≤ 2 ^ 44) :
    Fn Tryz.prog 253 #[v,.int .i64 n,.bool null] w fun r w' => AppR 5 B w v s (countedS true null n 4) r w' := by
  obtain ⟨a,c,rfl,hc⟩ := ho.len
  refine fn_of_W Tryz.func253 rfl Tryz.results253 Tryz.ntmps253 rfl ?_
  have ew : IntKind.u32.wrap (n : Int) = n := u32_wrap (by omega)
  have ew2 : IntKind.u32.wrap (1 + (n : Int)) = ((n + 1 : Nat) : Int) := by rw [u32_wrap (by omega)];omega
  cases null with
  | true =>
    rw [counted_none,if_pos rfl,← show uvarS 0 = [0] from by rw [uvarS_1 (by omega)];rfl]
    repeat ((first | refine qA rfl ?_|refine qB ?_|refine qC rfl ?_|refine qD ?_|refine qE ?_|refine qF ?_|refine qG ?_|refine qH ?_);try simp (maxSteps:=1000000)(disch:=(first|omega|(simp only [qI,qJ,qK]<;>omega)|exact qL _)) only [go_sem,↓reduceIte,n0,reduceCtorEq,n1,n2,n3,n4,n5,i0,i1,i2,i3,i4,i5,i6,i7,ew,ew2])
    refine (AppendUvarint_fn _ s w ho hB 0 (by omega) (by omega)).mono ?_
    rintro r w1 h1
    repeat ((first | refine qA rfl ?_|refine qB ?_|refine qC rfl ?_|refine qD ?_|refine qE ?_|refine qF ?_|refine qG ?_|refine qH ?_);try simp (maxSteps:=1000000)(disch:=(first|omega|(simp only [qI,qJ,qK]<;>omega)|exact qL _)) only [go_sem,↓reduceIte,n0,reduceCtorEq,n1,n2,n3,n4,n5,i0,i1,i2,i3,i4,i5,i6,i7])
    exact h1
  | false =>
    rw [counted_some,if_pos rfl]
    repeat ((first | refine qA rfl ?_|refine qB ?_|refine qC rfl ?_|refine qD ?_|refine qE ?_|refine qF ?_|refine qG ?_|refine qH ?_);try simp (maxSteps:=1000000)(disch:=(first|omega|(simp only [qI,qJ,qK]<;>omega)|exact qL _)) only [go_sem,↓reduceIte,n0,reduceCtorEq,n1,n2,n3,n4,n5,i0,i1,i2,i3,i4,i5,i6,i7,ew,ew2])
    refine (AppendUvarint_fn _ s w ho hB (n + 1) (by omega) (by omega)).mono ?_
    rintro r w1 h1
    repeat ((first | refine qA rfl ?_|refine qB ?_|refine qC rfl ?_|refine qD ?_|refine qE ?_|refine qF ?_|refine qG ?_|refine qH ?_);try simp (maxSteps:=1000000)(disch:=(first|omega|(simp only [qI,qJ,qK]<;>omega)|exact qL _)) only [go_sem,↓reduceIte,n0,reduceCtorEq,n1,n2,n3,n4,n5,i0,i1,i2,i3,i4,i5,i6,i7])
    exact h1

end Ms

namespace Ms
open Go.World renaming size_alloc → qI
open Ms renaming size_wr → qJ,size_drew → qK,not_noB → qL
open W renaming seqR → qA,seq → qB,regR → qC,condK → qD,block → qE,skip → qF,ret → qG,exit → qH
open Nat renaming reduceEqDiff → n0,reduceAdd → n1,reduceMul → n2,reduceSub → n3,reduceLT → n4,reduceLeDiff → n5
open Int renaming reduceEq → i0,reduceLT → i1,reduceLE → i2,reduceNeg → i3,reduceAdd → i4,reduceSub → i5,reduceMul → i6,reduceToNat → i7
set_option maxRecDepth 8000
open Go Go.Proofs Go.Shelf
attribute [local congr] W_congr WPsq_congr WPp_congr optK_congr addrK_congr intK_congr boolK_congr sliceK_congr tupleK_congr funcK_congr Fn_congr rawK_congr takeK_congr stepK_congr convK_congr aggK_congr

set_option maxHeartbeats 4000000 in
theorem appDescribeShareGroupOffsetsRequest_0 {d B : Nat} {okM : Blocks} {ver : Int} (hlo : 0 ≤ ver) (hhi : ver ≤ 1) (t : Tree) (cells : List Value) (v : Value) (s : List UInt8) (w : World) {vb : Nat} (ho : OwnBy 5 B w v s) (hB : B ≤ w.heap.size) (hvb : blk w vb = some ((.int .i16 ver :: cells).toArray,123,(0,0)))
    (hR : RepS true (d + 3) fs_DescribeShareGroupOffsetsRequest okM w t cells) (hfit : FitW ver (d + 3) fs_DescribeShareGroupOffsetsRequest t) (hd : ∀ b,b < w.heap.size → okM b → ¬ ownB v b) (hdv : ¬ ownB v vb) (hlen : s.length + (partS (d + 3) fs_DescribeShareGroupOffsetsRequest ver true t).length ≤ 2 ^ 41) :
    Fn Tryz.prog 267 #[.pointer (some ⟨vb,0,none⟩),v] w fun r w' => AppR 5 B w v s (partS (d + 3) fs_DescribeShareGroupOffsetsRequest ver true t) r w' := by
  obtain ⟨⟨g_0,-⟩,hfu⟩ := hfit
  replace g_0 : hasS fDescribeShareGroupOffsetsRequest_0 ver = true → FitWF (FitW ver (d + 2)) ver fDescribeShareGroupOffsetsRequest_0 (t.at 0) := g_0
  have hh_0 : hasS fDescribeShareGroupOffsetsRequest_0 ver = true := hasS_t (by show (0 : Int) ≤ ver;omega) (by show (-1 : Int) < 0 ∨ ver ≤ (-1 : Int);omega)
  replace g_0 := g_0 hh_0
  obtain ⟨cs,q,hcs,hL,hT⟩ := hR.inv
  obtain ⟨c_0,e_0,rfl,h_0,rfl⟩ := hL
  replace h_0 : RepF (RepS true (d + 2)) (szS true (d + 2)) fDescribeShareGroupOffsetsRequest_0 okM w (t.at 0) c_0 := h_0
  obtain ⟨p_0,rfl,hs_0⟩ := RepF_listW g_0 rfl (by decide) h_0
  obtain ⟨ab_0,ac_0,rfl,_⟩ := SlR.shape hs_0
  have hgl_0 := g_0.list rfl
  have hll_0 := hgl_0.1
  obtain ⟨qm,rfl⟩ := hT.shape
  have hv : blk w vb = some (#[.int .i16 ver,.slice ab_0 (t.at 0).l.length ac_0,.map qm],123,(0,0)) := by rw [hvb,hcs];rfl
  clear hvb hcs
  obtain ⟨XL_0,hXL_0⟩ : ∃ X,X = uvarS ((t.at 0).l.length + 1) := ⟨_,rfl⟩
  obtain ⟨XE_0,hXE_0⟩ : ∃ X,X = (t.at 0).l.flatMap (fun x => partS (d + 2) fs_X1 ver true x) := ⟨_,rfl⟩
  obtain ⟨XU,hXU⟩ : ∃ X,X = uvarS t.u.length := ⟨_,rfl⟩
  obtain ⟨XT,hXT⟩ : ∃ X,X = t.u.flatMap oneTag := ⟨_,rfl⟩
  have hP : partS (d + 3) fs_DescribeShareGroupOffsetsRequest ver true t = ((XL_0 ++ XE_0) ++ []) ++ (XU ++ XT) := by rw [hXU,hXT];exact partS_yes rfl hfu (plainL_has (by decide) hh_0 ((fieldS_list_t (g := (fun x => partS (d + 2) fs_X1 ver true x)) g_0 rfl (by decide) (fun x _ => valueS_part)).trans (by rw [hXL_0,hXE_0])) rfl)
  rw [hP] at hlen
  simp only [List.length_append,List.length_nil] at hlen
  have hdK : ∀ {r : Value} {w' : World} {add : List UInt8},AppR 5 B w v s add r w' → ∀ b,b < w'.heap.size → OkS okM w.heap.size b → ¬ ownB r b := fun h b _ hk ho => (h.frame b ho).elim (hd b hk.2 hk.1) (fun h => by have := hk.2;omega)
  have ownK : ∀ {r : Value} {w' : World} {add : List UInt8} {b : Nat},AppR 5 B w v s add r w' → b < w.heap.size → ¬ ownB v b → ¬ ownB r b := fun h hb hn ho => (h.frame _ ho).elim hn (fun h => by omega)
  have ha0 : AppR 5 B w v s [] v w := AppR.refl ho
  obtain ⟨w0,hw0⟩ : ∃ w0,w0 = w := ⟨_,rfl⟩
  have hB0 := hB
  have hv_0 := hv
  refine fn_of_W Tryz.func267 rfl Tryz.results267 Tryz.ntmps267 rfl ?_
  repeat ((first | refine qA rfl ?_|refine qB ?_|refine qC rfl ?_|refine qD ?_|refine qE ?_|refine qF ?_|refine qG ?_|refine qH ?_);try simp (maxSteps:=1000000)(disch:=(first|omega|(simp only [qI,qJ,qK]<;>omega)|exact qL _)) only [go_sem,↓reduceIte,n0,reduceCtorEq,n1,n2,n3,n4,n5,i0,i1,i2,i3,i4,i5,i6,i7,hv_0])
  refine (AppendCompactArrayLen_fn _ _ _ ha0.own hB0 (t.at 0).l.length hll_0 (by simp only [List.length_append,List.length_nil];omega)).mono ?_
  rintro r1 w1 hc1
  rw [← hXL_0] at hc1
  have ha1 := ha0.trans hc1
  have hB1 : B ≤ w1.heap.size := Nat.le_trans hB ha1.upd.size
  have hv_1 := ha1.upd.blk_some hv hdv
  repeat ((first | refine qA rfl ?_|refine qB ?_|refine qC rfl ?_|refine qD ?_|refine qE ?_|refine qF ?_|refine qG ?_|refine qH ?_);try simp (maxSteps:=1000000)(disch:=(first|omega|(simp only [qI,qJ,qK]<;>omega)|exact qL _)) only [go_sem,↓reduceIte,n0,reduceCtorEq,n1,n2,n3,n4,n5,i0,i1,i2,i3,i4,i5,i6,i7,hv_1])
  have hadd1 := ha1
  refine W.exitJ 0 (fun ρ w' => ∃ r,ρ 1 = r ∧ ρ 0 = .pointer (some ⟨vb,0,none⟩) ∧ ρ 5 = .int .i16 ver ∧ ρ 6 = .bool true ∧ AppR 5 B w v s (([] ++ XL_0) ++ XE_0) r w')
    (W.loop (fun ρ w' => ∃ (j : Nat) (r : Value),j ≤ (t.at 0).l.length ∧ ρ 41 = .int .i64 j ∧ ρ 40 = .int .i64 (t.at 0).l.length ∧ ρ 7 = .slice ab_0 (t.at 0).l.length ac_0 ∧ ρ 1 = r ∧ ρ 0 = .pointer (some ⟨vb,0,none⟩) ∧ ρ 5 = .int .i16 ver ∧ ρ 6 = .bool true ∧ AppR 5 B w v s (([] ++ XL_0) ++ ((t.at 0).l.take j).flatMap (fun x => partS (d + 2) fs_X1 ver true x)) r w')
      (fun ρ _ => (t.at 0).l.length - (RowKit.intOf (ρ 41)).toNat) ?_ ?_) ?_
  · refine ⟨0,_,Nat.zero_le _,?_,?_,?_,?_,?_,?_,?_,ha1.eqs (by rw [List.take_zero,List.flatMap_nil,List.append_nil])⟩ <;> simp (maxSteps:=1000000)(disch:=(first|omega|(simp only [qI,qJ,qK]<;>omega)|exact qL _)) only [go_sem,↓reduceIte,n0,reduceCtorEq,n1,n2,n3,n4,n5,i0,i1,i2,i3,i4,i5,i6,i7]
    all_goals rfl
  · rintro ρ w2 ⟨j1,r2,hj1,hI1,hN1,hS1,hr1_1,hr1_0,hr1_5,hr1_6,ha2⟩
    have hB2 : B ≤ w2.heap.size := Nat.le_trans hB ha2.upd.size
    have hv_2 := ha2.upd.blk_some hv hdv
    by_cases hlt1 : j1 < (t.at 0).l.length
    · obtain ⟨_,b1,o1,x1,ce1,hb1,hok1,hx1,hbl1,hxs1,hxe1,hq1,hRe1⟩ := SlR.get (size := 3) (by decide) hs_0 hlt1
      subst hb1
      have hcat1 : (t.at 0).l.take (j1 + 1) = (t.at 0).l.take j1 ++ [(t.at 0).l[j1]] := List.take_succ_eq_append_getElem hlt1
      have htl1 := take_flatMap_len (t.at 0).l (fun x => partS (d + 2) fs_X1 ver true x) (j1 + 1)
      rw [← hXE_0,hcat1,List.flatMap_append,List.flatMap_cons,List.flatMap_nil,List.append_nil] at htl1
      have hge1 := hgl_0.2 _ (List.getElem_mem hlt1)
      generalize (t.at 0).l[j1] = y1 at *
      have hnx1 := hd b1 hbl1 hok1
      obtain ⟨T1,hTT1⟩ : ∃ T,T = ((t.at 0).l.take j1).flatMap (fun x => partS (d + 2) fs_X1 ver true x) := ⟨_,rfl⟩
      rw [← hTT1] at ha2 htl1
      have hx1_2 := ha2.upd.blk_some hx1 hnx1
      replace hRe1 : RepS true (d + 2) fs_X1 okM w y1 ce1 := Rep1_part.1 hRe1
      have hfe1 : FitW ver (d + 2) fs_X1 y1 := hge1.2 rfl
      obtain ⟨⟨ge1_0,ge1_1,-⟩,hfue1⟩ := hfe1
      replace ge1_0 : hasS fX1_0 ver = true → FitWF (FitW ver (d + 1)) ver fX1_0 (y1.at 0) := ge1_0
      have hhe1_0 : hasS fX1_0 ver = true := hasS_t (by show (0 : Int) ≤ ver;omega) (by show (-1 : Int) < 0 ∨ ver ≤ (-1 : Int);omega)
      replace ge1_0 := ge1_0 hhe1_0
      replace ge1_1 : hasS fX1_1 ver = true → FitWF (FitW ver (d + 1)) ver fX1_1 (y1.at 1) := ge1_1
      have hhe1_1 : hasS fX1_1 ver = true := hasS_t (by show (0 : Int) ≤ ver;omega) (by show (-1 : Int) < 0 ∨ ver ≤ (-1 : Int);omega)
      replace ge1_1 := ge1_1 hhe1_1
      obtain ⟨cse1,qe1,hcse1,hLe1,hTe1⟩ := hRe1.inv
      obtain ⟨ce1_0,ee1_0,rfl,he1_0,ce1_1,ee1_1,rfl,he1_1,rfl⟩ := hLe1
      replace he1_0 : RepF (RepS true (d + 1)) (szS true (d + 1)) fX1_0 okM w (y1.at 0) ce1_0 := he1_0
      replace he1_1 : RepF (RepS true (d + 1)) (szS true (d + 1)) fX1_1 okM w (y1.at 1) ce1_1 := he1_1
      obtain rfl := (RepF_text rfl (by decide)).1 he1_0
      obtain ⟨pe1_1,Le1_1,rfl,hLLe1_1,hse1_1,hnne1_1⟩ := RepF_listN ge1_1 rfl (by decide) he1_1
      obtain ⟨abe1_1,ace1_1,rfl,_⟩ := SlR.shape hse1_1
      have hnie1_1 := hnne1_1 _ _ _ rfl
      have hgle1_1 := ge1_1.listL rfl hLLe1_1
      have hlle1_1 := hgle1_1.1
      obtain ⟨qme1,rfl⟩ := hTe1.shape
      subst hcse1
      have hq1_0 : x1.1[o1 + j1 * 3]? = some (strV (y1.at 0).s) := hq1 0 (by decide)
      have hq1_1 : x1.1[o1 + (j1 * 3 + 1)]? = some (.slice abe1_1 Le1_1.length ace1_1) := hq1 1 (by decide)
      have hq1_2 : x1.1[o1 + (j1 * 3 + 2)]? = some (.map qme1) := hq1 2 (by decide)
      obtain ⟨Xe1_0,hXXe1_0⟩ : ∃ X,X = uvarS ((y1.at 0).s.length + 1) ++ (y1.at 0).s := ⟨_,rfl⟩
      obtain ⟨XLe1_1,hXLe1_1⟩ : ∃ X,X = countedS true (nullS fX1_1 ver (y1.at 1)) Le1_1.length 4 := ⟨_,rfl⟩
      obtain ⟨XEe1_1,hXEe1_1⟩ : ∃ X,X = Le1_1.flatMap (fun x => partS (d + 1) fs_X0 ver true x) := ⟨_,rfl⟩
      obtain ⟨XUe1,hXUe1⟩ : ∃ X,X = uvarS y1.u.length := ⟨_,rfl⟩
      obtain ⟨XTe1,hXTe1⟩ : ∃ X,X = y1.u.flatMap oneTag := ⟨_,rfl⟩
      have hPe1 : partS (d + 2) fs_X1 ver true y1 = (Xe1_0 ++ ((XLe1_1 ++ XEe1_1) ++ [])) ++ (XUe1 ++ XTe1) := by rw [hXUe1,hXTe1];exact partS_yes rfl hfue1 (plainL_has (by decide) hhe1_0 ((fieldS_text_t ge1_0 rfl (by decide)).trans hXXe1_0.symm) (plainL_has (by decide) hhe1_1 ((fieldS_listN (g := (fun x => partS (d + 1) fs_X0 ver true x)) ge1_1 rfl hLLe1_1 (fun x _ => valueS_part)).trans (by rw [hXLe1_1,hXEe1_1])) rfl))
      rw [hPe1] at htl1
      simp only [List.length_append,List.length_nil] at htl1
      repeat ((first | refine qA rfl ?_|refine qB ?_|refine qC rfl ?_|refine qD ?_|refine qE ?_|refine qF ?_|refine qG ?_|refine qH ?_);try simp (maxSteps:=1000000)(disch:=(first|omega|(simp only [qI,qJ,qK]<;>omega)|exact qL _)) only [go_sem,↓reduceIte,n0,reduceCtorEq,n1,n2,n3,n4,n5,i0,i1,i2,i3,i4,i5,i6,i7,hv_2,hx1_2,Int.toNat_natCast,Nat.mul_one,hq1_0,hq1_1,hq1_2,hnie1_1,hr1_1,hr1_0,hr1_5,hr1_6,hI1,hN1,hS1])
      refine (AppendCompactString_fn _ _ _ ha2.own hB2 (y1.at 0).s (ge1_0.text (.inl rfl)) (by simp only [List.length_append,List.length_nil];omega)).mono ?_
      rintro r3 w3 hc3
      rw [← hXXe1_0] at hc3
      have ha3 := ha2.trans hc3
      have hB3 : B ≤ w3.heap.size := Nat.le_trans hB ha3.upd.size
      have hv_3 := ha3.upd.blk_some hv hdv
      have hx1_3 := ha3.upd.blk_some hx1 hnx1
      repeat ((first | refine qA rfl ?_|refine qB ?_|refine qC rfl ?_|refine qD ?_|refine qE ?_|refine qF ?_|refine qG ?_|refine qH ?_);try simp (maxSteps:=1000000)(disch:=(first|omega|(simp only [qI,qJ,qK]<;>omega)|exact qL _)) only [go_sem,↓reduceIte,n0,reduceCtorEq,n1,n2,n3,n4,n5,i0,i1,i2,i3,i4,i5,i6,i7,hv_3,hx1_3,Int.toNat_natCast,Nat.mul_one,hq1_0,hq1_1,hq1_2,hnie1_1,hr1_1,hr1_0,hr1_5,hr1_6,hI1,hN1,hS1])
      refine (AppendCompactNullableArrayLen_fn _ _ _ ha3.own hB3 Le1_1.length hlle1_1 (nullS fX1_1 ver (y1.at 1)) (by simp only [List.length_append,List.length_nil];omega)).mono ?_
      rintro r4 w4 hc4
      rw [← hXLe1_1] at hc4
      have ha4 := ha3.trans hc4
      have hB4 : B ≤ w4.heap.size := Nat.le_trans hB ha4.upd.size
      have hv_4 := ha4.upd.blk_some hv hdv
      have hx1_4 := ha4.upd.blk_some hx1 hnx1
      repeat ((first | refine qA rfl ?_|refine qB ?_|refine qC rfl ?_|refine qD ?_|refine qE ?_|refine qF ?_|refine qG ?_|refine qH ?_);try simp (maxSteps:=1000000)(disch:=(first|omega|(simp only [qI,qJ,qK]<;>omega)|exact qL _)) only [go_sem,↓reduceIte,n0,reduceCtorEq,n1,n2,n3,n4,n5,i0,i1,i2,i3,i4,i5,i6,i7,hv_4,hx1_4,Int.toNat_natCast,Nat.mul_one,hq1_0,hq1_1,hq1_2,hnie1_1,hr1_1,hr1_0,hr1_5,hr1_6,hI1,hN1,hS1])
      have hadd2 := ha4
      refine W.exitJ 2 (fun ρ w' => ∃ r,ρ 1 = r ∧ ρ 0 = .pointer (some ⟨vb,0,none⟩) ∧ ρ 5 = .int .i16 ver ∧ ρ 6 = .bool true ∧ ρ 41 = .int .i64 j1 ∧ ρ 40 = .int .i64 (t.at 0).l.length ∧ ρ 7 = .slice (some ⟨b1,o1,none⟩) (t.at 0).l.length ac_0 ∧ ρ 9 = .pointer (some ⟨b1,o1 + j1 * 3,none⟩) ∧ AppR 5 B w v s (([] ++ XL_0 ++ T1 ++ Xe1_0 ++ XLe1_1) ++ XEe1_1) r w')
        (W.loop (fun ρ w' => ∃ (j : Nat) (r : Value),j ≤ Le1_1.length ∧ ρ 77 = .int .i64 j ∧ ρ 76 = .int .i64 Le1_1.length ∧ ρ 11 = .slice abe1_1 Le1_1.length ace1_1 ∧ ρ 1 = r ∧ ρ 0 = .pointer (some ⟨vb,0,none⟩) ∧ ρ 5 = .int .i16 ver ∧ ρ 6 = .bool true ∧ ρ 41 = .int .i64 j1 ∧ ρ 40 = .int .i64 (t.at 0).l.length ∧ ρ 7 = .slice (some ⟨b1,o1,none⟩) (t.at 0).l.length ac_0 ∧ ρ 9 = .pointer (some ⟨b1,o1 + j1 * 3,none⟩) ∧ AppR 5 B w v s (([] ++ XL_0 ++ T1 ++ Xe1_0 ++ XLe1_1) ++ (Le1_1.take j).flatMap (fun x => partS (d + 1) fs_X0 ver true x)) r w')
          (fun ρ _ => Le1_1.length - (RowKit.intOf (ρ 77)).toNat) ?_ ?_) ?_
      · refine ⟨0,_,Nat.zero_le _,?_,?_,?_,?_,?_,?_,?_,?_,?_,?_,?_,ha4.eqs (by rw [List.take_zero,List.flatMap_nil,List.append_nil])⟩ <;> simp (maxSteps:=1000000)(disch:=(first|omega|(simp only [qI,qJ,qK]<;>omega)|exact qL _)) only [go_sem,↓reduceIte,n0,reduceCtorEq,n1,n2,n3,n4,n5,i0,i1,i2,i3,i4,i5,i6,i7,hr1_1,hr1_0,hr1_5,hr1_6,hI1,hN1,hS1]
        all_goals rfl
      · rintro ρ w5 ⟨j2,r5,hj2,hI2,hN2,hS2,hr1_2,hr2_0,hr2_5,hr2_6,hr2_41,hr2_40,hr2_7,hr2_9,ha5⟩
        have hB5 : B ≤ w5.heap.size := Nat.le_trans hB ha5.upd.size
        have hv_5 := ha5.upd.blk_some hv hdv
        have hx1_5 := ha5.upd.blk_some hx1 hnx1
        by_cases hlt2 : j2 < Le1_1.length
        · obtain ⟨_,b2,o2,x2,ce2,hb2,hok2,hx2,hbl2,hxs2,hxe2,hq2,hRe2⟩ := SlR.get (size := 3) (by decide) hse1_1 hlt2
          subst hb2
          have hcat2 : Le1_1.take (j2 + 1) = Le1_1.take j2 ++ [Le1_1[j2]] := List.take_succ_eq_append_getElem hlt2
          have htl2 := take_flatMap_len Le1_1 (fun x => partS (d + 1) fs_X0 ver true x) (j2 + 1)
          rw [← hXEe1_1,hcat2,List.flatMap_append,List.flatMap_cons,List.flatMap_nil,List.append_nil] at htl2
          have hge2 := hgle1_1.2 _ (List.getElem_mem hlt2)
          generalize Le1_1[j2] = y2 at *
          have hnx2 := hd b2 hbl2 hok2
          obtain ⟨T2,hTT2⟩ : ∃ T,T = (Le1_1.take j2).flatMap (fun x => partS (d + 1) fs_X0 ver true x) := ⟨_,rfl⟩
          rw [← hTT2] at ha5 htl2
          have hx2_5 := ha5.upd.blk_some hx2 hnx2
          replace hRe2 : RepS true (d + 1) fs_X0 okM w y2 ce2 := Rep1_part.1 hRe2
          have hfe2 : FitW ver (d + 1) fs_X0 y2 := hge2.2 rfl
          obtain ⟨⟨ge2_0,ge2_1,-⟩,hfue2⟩ := hfe2
          replace ge2_0 : hasS fX0_0 ver = true → FitWF (FitW ver d) ver fX0_0 (y2.at 0) := ge2_0
          have hhe2_0 : hasS fX0_0 ver = true := hasS_t (by show (0 : Int) ≤ ver;omega) (by show (-1 : Int) < 0 ∨ ver ≤ (-1 : Int);omega)
          replace ge2_0 := ge2_0 hhe2_0
          replace ge2_1 : hasS fX0_1 ver = true → FitWF (FitW ver d) ver fX0_1 (y2.at 1) := ge2_1
          have hhe2_1 : hasS fX0_1 ver = true := hasS_t (by show (0 : Int) ≤ ver;omega) (by show (-1 : Int) < 0 ∨ ver ≤ (-1 : Int);omega)
          replace ge2_1 := ge2_1 hhe2_1
          obtain ⟨cse2,qe2,hcse2,hLe2,hTe2⟩ := hRe2.inv
          obtain ⟨ce2_0,ee2_0,rfl,he2_0,ce2_1,ee2_1,rfl,he2_1,rfl⟩ := hLe2
          replace he2_0 : RepF (RepS true d) (szS true d) fX0_0 okM w (y2.at 0) ce2_0 := he2_0
          replace he2_1 : RepF (RepS true d) (szS true d) fX0_1 okM w (y2.at 1) ce2_1 := he2_1
          obtain rfl := (RepF_text rfl (by decide)).1 he2_0
          obtain ⟨pe2_1,rfl,hse2_1⟩ := RepF_listW ge2_1 rfl (by decide) he2_1
          obtain ⟨abe2_1,ace2_1,rfl,_⟩ := SlR.shape hse2_1
          have hgle2_1 := ge2_1.list rfl
          have hlle2_1 := hgle2_1.1
          obtain ⟨qme2,rfl⟩ := hTe2.shape
          subst hcse2
          have hq2_0 : x2.1[o2 + j2 * 3]? = some (strV (y2.at 0).s) := hq2 0 (by decide)
          have hq2_1 : x2.1[o2 + (j2 * 3 + 1)]? = some (.slice abe2_1 (y2.at 1).l.length ace2_1) := hq2 1 (by decide)
          have hq2_2 : x2.1[o2 + (j2 * 3 + 2)]? = some (.map qme2) := hq2 2 (by decide)
          obtain ⟨Xe2_0,hXXe2_0⟩ : ∃ X,X = uvarS ((y2.at 0).s.length + 1) ++ (y2.at 0).s := ⟨_,rfl⟩
          obtain ⟨XLe2_1,hXLe2_1⟩ : ∃ X,X = uvarS ((y2.at 1).l.length + 1) := ⟨_,rfl⟩
          obtain ⟨XEe2_1,hXEe2_1⟩ : ∃ X,X = (y2.at 1).l.flatMap (fun x : Tree => fixedS x.n 4) := ⟨_,rfl⟩
          obtain ⟨XUe2,hXUe2⟩ : ∃ X,X = uvarS y2.u.length := ⟨_,rfl⟩
          obtain ⟨XTe2,hXTe2⟩ : ∃ X,X = y2.u.flatMap oneTag := ⟨_,rfl⟩
          have hPe2 : partS (d + 1) fs_X0 ver true y2 = (Xe2_0 ++ ((XLe2_1 ++ XEe2_1) ++ [])) ++ (XUe2 ++ XTe2) := by rw [hXUe2,hXTe2];exact partS_yes rfl hfue2 (plainL_has (by decide) hhe2_0 ((fieldS_text_t ge2_0 rfl (by decide)).trans hXXe2_0.symm) (plainL_has (by decide) hhe2_1 ((fieldS_list_t (g := (fun x : Tree => fixedS x.n 4)) ge2_1 rfl (by decide) (fun x _ => valueS_num 3 (by decide))).trans (by rw [hXLe2_1,hXEe2_1])) rfl))
          rw [hPe2] at htl2
          simp only [List.length_append,List.length_nil] at htl2
          repeat ((first | refine qA rfl ?_|refine qB ?_|refine qC rfl ?_|refine qD ?_|refine qE ?_|refine qF ?_|refine qG ?_|refine qH ?_);try simp (maxSteps:=1000000)(disch:=(first|omega|(simp only [qI,qJ,qK]<;>omega)|exact qL _)) only [go_sem,↓reduceIte,n0,reduceCtorEq,n1,n2,n3,n4,n5,i0,i1,i2,i3,i4,i5,i6,i7,hv_5,hx1_5,hx2_5,Int.toNat_natCast,Nat.mul_one,hq1_0,hq1_1,hq1_2,hnie1_1,hq2_0,hq2_1,hq2_2,hr1_2,hr2_0,hr2_5,hr2_6,hr2_41,hr2_40,hr2_7,hr2_9,hI2,hN2,hS2])
          refine (AppendCompactString_fn _ _ _ ha5.own hB5 (y2.at 0).s (ge2_0.text (.inl rfl)) (by simp only [List.length_append,List.length_nil];omega)).mono ?_
          rintro r6 w6 hc6
          rw [← hXXe2_0] at hc6
          have ha6 := ha5.trans hc6
          have hB6 : B ≤ w6.heap.size := Nat.le_trans hB ha6.upd.size
          have hv_6 := ha6.upd.blk_some hv hdv
          have hx1_6 := ha6.upd.blk_some hx1 hnx1
          have hx2_6 := ha6.upd.blk_some hx2 hnx2
          repeat ((first | refine qA rfl ?_|refine qB ?_|refine qC rfl ?_|refine qD ?_|refine qE ?_|refine qF ?_|refine qG ?_|refine qH ?_);try simp (maxSteps:=1000000)(disch:=(first|omega|(simp only [qI,qJ,qK]<;>omega)|exact qL _)) only [go_sem,↓reduceIte,n0,reduceCtorEq,n1,n2,n3,n4,n5,i0,i1,i2,i3,i4,i5,i6,i7,hv_6,hx1_6,hx2_6,Int.toNat_natCast,Nat.mul_one,hq1_0,hq1_1,hq1_2,hnie1_1,hq2_0,hq2_1,hq2_2,hr1_2,hr2_0,hr2_5,hr2_6,hr2_41,hr2_40,hr2_7,hr2_9,hI2,hN2,hS2])
          refine (AppendCompactArrayLen_fn _ _ _ ha6.own hB6 (y2.at 1).l.length hlle2_1 (by simp only [List.length_append,List.length_nil];omega)).mono ?_
          rintro r7 w7 hc7
          rw [← hXLe2_1] at hc7
          have ha7 := ha6.trans hc7
          have hB7 : B ≤ w7.heap.size := Nat.le_trans hB ha7.upd.size
          have hv_7 := ha7.upd.blk_some hv hdv
          have hx1_7 := ha7.upd.blk_some hx1 hnx1
          have hx2_7 := ha7.upd.blk_some hx2 hnx2
          repeat ((first | refine qA rfl ?_|refine qB ?_|refine qC rfl ?_|refine qD ?_|refine qE ?_|refine qF ?_|refine qG ?_|refine qH ?_);try simp (maxSteps:=1000000)(disch:=(first|omega|(simp only [qI,qJ,qK]<;>omega)|exact qL _)) only [go_sem,↓reduceIte,n0,reduceCtorEq,n1,n2,n3,n4,n5,i0,i1,i2,i3,i4,i5,i6,i7,hv_7,hx1_7,hx2_7,Int.toNat_natCast,Nat.mul_one,hq1_0,hq1_1,hq1_2,hnie1_1,hq2_0,hq2_1,hq2_2,hr1_2,hr2_0,hr2_5,hr2_6,hr2_41,hr2_40,hr2_7,hr2_9,hI2,hN2,hS2])
          have hadd3 := ha7
          refine W.exitJ 4 (fun ρ w' => ∃ r,ρ 1 = r ∧ ρ 0 = .pointer (some ⟨vb,0,none⟩) ∧ ρ 5 = .int .i16 ver ∧ ρ 6 = .bool true ∧ ρ 41 = .int .i64 j1 ∧ ρ 40 = .int .i64 (t.at 0).l.length ∧ ρ 7 = .slice (some ⟨b1,o1,none⟩) (t.at 0).l.length ac_0 ∧ ρ 9 = .pointer (some ⟨b1,o1 + j1 * 3,none⟩) ∧ ρ 77 = .int .i64 j2 ∧ ρ 76 = .int .i64 Le1_1.length ∧ ρ 11 = .slice (some ⟨b2,o2,none⟩) Le1_1.length ace1_1 ∧ ρ 13 = .pointer (some ⟨b2,o2 + j2 * 3,none⟩) ∧ AppR 5 B w v s (([] ++ XL_0 ++ T1 ++ Xe1_0 ++ XLe1_1 ++ T2 ++ Xe2_0 ++ XLe2_1) ++ XEe2_1) r w')
            (W.loop (fun ρ w' => ∃ (j : Nat) (r : Value),j ≤ (y2.at 1).l.length ∧ ρ 109 = .int .i64 j ∧ ρ 108 = .int .i64 (y2.at 1).l.length ∧ ρ 15 = .slice abe2_1 (y2.at 1).l.length ace2_1 ∧ ρ 1 = r ∧ ρ 0 = .pointer (some ⟨vb,0,none⟩) ∧ ρ 5 = .int .i16 ver ∧ ρ 6 = .bool true ∧ ρ 41 = .int .i64 j1 ∧ ρ 40 = .int .i64 (t.at 0).l.length ∧ ρ 7 = .slice (some ⟨b1,o1,none⟩) (t.at 0).l.length ac_0 ∧ ρ 9 = .pointer (some ⟨b1,o1 + j1 * 3,none⟩) ∧ ρ 77 = .int .i64 j2 ∧ ρ 76 = .int .i64 Le1_1.length ∧ ρ 11 = .slice (some ⟨b2,o2,none⟩) Le1_1.length ace1_1 ∧ ρ 13 = .pointer (some ⟨b2,o2 + j2 * 3,none⟩) ∧ AppR 5 B w v s (([] ++ XL_0 ++ T1 ++ Xe1_0 ++ XLe1_1 ++ T2 ++ Xe2_0 ++ XLe2_1) ++ ((y2.at 1).l.take j).flatMap (fun x : Tree => fixedS x.n 4)) r w')
              (fun ρ _ => (y2.at 1).l.length - (RowKit.intOf (ρ 109)).toNat) ?_ ?_) ?_
          · refine ⟨0,_,Nat.zero_le _,?_,?_,?_,?_,?_,?_,?_,?_,?_,?_,?_,?_,?_,?_,?_,ha7.eqs (by rw [List.take_zero,List.flatMap_nil,List.append_nil])⟩ <;> simp (maxSteps:=1000000)(disch:=(first|omega|(simp only [qI,qJ,qK]<;>omega)|exact qL _)) only [go_sem,↓reduceIte,n0,reduceCtorEq,n1,n2,n3,n4,n5,i0,i1,i2,i3,i4,i5,i6,i7,hr1_2,hr2_0,hr2_5,hr2_6,hr2_41,hr2_40,hr2_7,hr2_9,hI2,hN2,hS2]
            all_goals rfl
          · rintro ρ w8 ⟨j3,r8,hj3,hI3,hN3,hS3,hr1_3,hr3_0,hr3_5,hr3_6,hr3_41,hr3_40,hr3_7,hr3_9,hr3_77,hr3_76,hr3_11,hr3_13,ha8⟩
            have hB8 : B ≤ w8.heap.size := Nat.le_trans hB ha8.upd.size
            have hv_8 := ha8.upd.blk_some hv hdv
            have hx1_8 := ha8.upd.blk_some hx1 hnx1
            have hx2_8 := ha8.upd.blk_some hx2 hnx2
            by_cases hlt3 : j3 < (y2.at 1).l.length
            · obtain ⟨_,b3,o3,x3,ce3,hb3,hok3,hx3,hbl3,hxs3,hxe3,hq3,hRe3⟩ := SlR.get (size := 1) (by decide) hse2_1 hlt3
              subst hb3
              have hcat3 : (y2.at 1).l.take (j3 + 1) = (y2.at 1).l.take j3 ++ [(y2.at 1).l[j3]] := List.take_succ_eq_append_getElem hlt3
              have htl3 := take_flatMap_len (y2.at 1).l (fun x : Tree => fixedS x.n 4) (j3 + 1)
              rw [← hXEe2_1,hcat3,List.flatMap_append,List.flatMap_cons,List.flatMap_nil,List.append_nil] at htl3
              have hge3 := hgle2_1.2 _ (List.getElem_mem hlt3)
              generalize (y2.at 1).l[j3] = y3 at *
              have hnx3 := hd b3 hbl3 hok3
              obtain ⟨T3,hTT3⟩ : ∃ T,T = ((y2.at 1).l.take j3).flatMap (fun x : Tree => fixedS x.n 4) := ⟨_,rfl⟩
              rw [← hTT3] at ha8 htl3
              have hx3_8 := ha8.upd.blk_some hx3 hnx3
              obtain rfl := (Rep1_num (by decide)).1 hRe3
              have hq3_0 : x3.1[o3 + j3]? = some (.int .i32 (IntKind.i32.wrap y3.n)) := by have := hq3 0 (by decide);rw [Nat.mul_one] at this;exact this
              obtain ⟨Y3,hY3⟩ : ∃ Y,Y = fixedS (y3).n 4 := ⟨_,rfl⟩
              replace htl3 : (T3 ++ Y3).length ≤ XEe2_1.length := by rw [hY3];exact htl3
              simp only [List.length_append] at htl3
              repeat ((first | refine qA rfl ?_|refine qB ?_|refine qC rfl ?_|refine qD ?_|refine qE ?_|refine qF ?_|refine qG ?_|refine qH ?_);try simp (maxSteps:=1000000)(disch:=(first|omega|(simp only [qI,qJ,qK]<;>omega)|exact qL _)) only [go_sem,↓reduceIte,n0,reduceCtorEq,n1,n2,n3,n4,n5,i0,i1,i2,i3,i4,i5,i6,i7,hv_8,hx1_8,hx2_8,hx3_8,Int.toNat_natCast,Nat.mul_one,hq1_0,hq1_1,hq1_2,hnie1_1,hq2_0,hq2_1,hq2_2,hq3_0,hr1_3,hr3_0,hr3_5,hr3_6,hr3_41,hr3_40,hr3_7,hr3_9,hr3_77,hr3_76,hr3_11,hr3_13,hI3,hN3,hS3])
              refine (AppendInt32_fn _ _ _ ha8.own hB8 _ (by simp only [List.length_append,List.length_nil];omega)).mono ?_
              rintro r9 w9 hc9
              rw [wrap32,← hY3] at hc9
              have ha9 := ha8.trans hc9
              have hB9 : B ≤ w9.heap.size := Nat.le_trans hB ha9.upd.size
              have hv_9 := ha9.upd.blk_some hv hdv
              have hx1_9 := ha9.upd.blk_some hx1 hnx1
              have hx2_9 := ha9.upd.blk_some hx2 hnx2
              have hx3_9 := ha9.upd.blk_some hx3 hnx3
              repeat ((first | refine qA rfl ?_|refine qB ?_|refine qC rfl ?_|refine qD ?_|refine qE ?_|refine qF ?_|refine qG ?_|refine qH ?_);try simp (maxSteps:=1000000)(disch:=(first|omega|(simp only [qI,qJ,qK]<;>omega)|exact qL _)) only [go_sem,↓reduceIte,n0,reduceCtorEq,n1,n2,n3,n4,n5,i0,i1,i2,i3,i4,i5,i6,i7,hr1_3,hr3_0,hr3_5,hr3_6,hr3_41,hr3_40,hr3_7,hr3_9,hr3_77,hr3_76,hr3_11,hr3_13,hI3,hN3,hS3])
              refine ⟨⟨j3 + 1,_,by omega,rfl,rfl,ha9.eqs ?_⟩,?_⟩
              · rw [hcat3,List.flatMap_append,List.flatMap_cons,List.flatMap_nil,List.append_nil,← hTT3,hY3];simp only [List.append_assoc,List.append_nil,List.nil_append]
              · simp only [RowKit.intOf];omega
            · have hjl3 : j3 = (y2.at 1).l.length := by omega
              subst hjl3
              rw [List.take_length,← hXEe2_1] at ha8
              repeat ((first | refine qA rfl ?_|refine qB ?_|refine qC rfl ?_|refine qD ?_|refine qE ?_|refine qF ?_|refine qG ?_|refine qH ?_);try simp (maxSteps:=1000000)(disch:=(first|omega|(simp only [qI,qJ,qK]<;>omega)|exact qL _)) only [go_sem,↓reduceIte,n0,reduceCtorEq,n1,n2,n3,n4,n5,i0,i1,i2,i3,i4,i5,i6,i7,hI3,hN3])
              exact ⟨_,hr1_3,hr3_0,hr3_5,hr3_6,hr3_41,hr3_40,hr3_7,hr3_9,hr3_77,hr3_76,hr3_11,hr3_13,ha8⟩
          · rintro ρ w10 ⟨r10,hr1_4,hr4_0,hr4_5,hr4_6,hr4_41,hr4_40,hr4_7,hr4_9,hr4_77,hr4_76,hr4_11,hr4_13,ha10⟩
            have hB10 : B ≤ w10.heap.size := Nat.le_trans hB ha10.upd.size
            have hv_10 := ha10.upd.blk_some hv hdv
            have hx1_10 := ha10.upd.blk_some hx1 hnx1
            have hx2_10 := ha10.upd.blk_some hx2 hnx2
            repeat ((first | refine qA rfl ?_|refine qB ?_|refine qC rfl ?_|refine qD ?_|refine qE ?_|refine qF ?_|refine qG ?_|refine qH ?_);try simp (maxSteps:=1000000)(disch:=(first|omega|(simp only [qI,qJ,qK]<;>omega)|exact qL _)) only [go_sem,↓reduceIte,n0,reduceCtorEq,n1,n2,n3,n4,n5,i0,i1,i2,i3,i4,i5,i6,i7,hv_10,hx1_10,hx2_10,Int.toNat_natCast,Nat.mul_one,hq1_0,hq1_1,hq1_2,hnie1_1,hq2_0,hq2_1,hq2_2,hr1_4,hr4_0,hr4_5,hr4_6,hr4_41,hr4_40,hr4_7,hr4_9,hr4_77,hr4_76,hr4_11,hr4_13])
            have hTk10 : TagsM (OkS okM w.heap.size) w10 (.map qme2) y2.u := (hTe2.weaken fun b h1 h2 => ⟨h2,h1⟩).keep (ha10.upd.keeps fun b hb hk => hd b hb hk.1)
            refine (TagsLen_fn (ok := OkS okM w.heap.size) w10 hx2_10 (to := o2 + (j2 * 3 + 2)) hq2_2 hTk10).mono ?_
            rintro _ w10' ⟨rfl,rfl⟩
            have hul10 : y2.u.length ≤ 32767 := hfue2.1
            have ew10 : IntKind.u32.wrap (y2.u.length : Int) = y2.u.length := u32_wrap (by omega)
            have ez10 : IntKind.u32.wrap (0 + (y2.u.length : Int)) = y2.u.length := by rw [Int.zero_add,u32_wrap (by omega)]
            simp (maxSteps:=1000000)(disch:=(first|omega|(simp only [qI,qJ,qK]<;>omega)|exact qL _)) only [go_sem,↓reduceIte,n0,reduceCtorEq,n1,n2,n3,n4,n5,i0,i1,i2,i3,i4,i5,i6,i7,hv_10,hx1_10,hx2_10,Int.toNat_natCast,Nat.mul_one,hq1_0,hq1_1,hq1_2,hnie1_1,hq2_0,hq2_1,hq2_2,hr1_4,hr4_0,hr4_5,hr4_6,hr4_41,hr4_40,hr4_7,hr4_9,hr4_77,hr4_76,hr4_11,hr4_13,ew10,ez10]
            refine (AppendUvarint_fn _ _ _ ha10.own hB10 y2.u.length (by omega) (by simp only [List.length_append,List.length_nil];omega)).mono ?_
            rintro r11 w11 hc11
            rw [← hXUe2] at hc11
            have ha11 := ha10.trans hc11
            have hB11 : B ≤ w11.heap.size := Nat.le_trans hB ha11.upd.size
            have hv_11 := ha11.upd.blk_some hv hdv
            have hx1_11 := ha11.upd.blk_some hx1 hnx1
            have hx2_11 := ha11.upd.blk_some hx2 hnx2
            repeat ((first | refine qA rfl ?_|refine qB ?_|refine qC rfl ?_|refine qD ?_|refine qE ?_|refine qF ?_|refine qG ?_|refine qH ?_);try simp (maxSteps:=1000000)(disch:=(first|omega|(simp only [qI,qJ,qK]<;>omega)|exact qL _)) only [go_sem,↓reduceIte,n0,reduceCtorEq,n1,n2,n3,n4,n5,i0,i1,i2,i3,i4,i5,i6,i7,hv_11,hx1_11,hx2_11,Int.toNat_natCast,Nat.mul_one,hq1_0,hq1_1,hq1_2,hnie1_1,hq2_0,hq2_1,hq2_2,hr1_4,hr4_0,hr4_5,hr4_6,hr4_41,hr4_40,hr4_7,hr4_9,hr4_77,hr4_76,hr4_11,hr4_13])
            have hTk11 : TagsM (OkS okM w.heap.size) w11 (.map qme2) y2.u := (hTe2.weaken fun b h1 h2 => ⟨h2,h1⟩).keep (ha11.upd.keeps fun b hb hk => hd b hb hk.1)
            refine (AppendEach_fn (ok := OkS okM w.heap.size) _ _ _ ha11.own hB11 hx2_11 (to := o2 + (j2 * 3 + 2)) hq2_2 hTk11 (rising_keys hfue2) hfue2.1 (tags_small hfue2 hTk11) (hdK ha11) (ownK ha11 (blk_lt hx2) hnx2) (by simp only [List.length_append,List.length_nil];omega)).mono ?_
            rintro r12 w12 hc12
            rw [← hXTe2] at hc12
            have ha12 := ha11.trans hc12
            have hB12 : B ≤ w12.heap.size := Nat.le_trans hB ha12.upd.size
            have hv_12 := ha12.upd.blk_some hv hdv
            have hx1_12 := ha12.upd.blk_some hx1 hnx1
            have hx2_12 := ha12.upd.blk_some hx2 hnx2
            repeat ((first | refine qA rfl ?_|refine qB ?_|refine qC rfl ?_|refine qD ?_|refine qE ?_|refine qF ?_|refine qG ?_|refine qH ?_);try simp (maxSteps:=1000000)(disch:=(first|omega|(simp only [qI,qJ,qK]<;>omega)|exact qL _)) only [go_sem,↓reduceIte,n0,reduceCtorEq,n1,n2,n3,n4,n5,i0,i1,i2,i3,i4,i5,i6,i7,hr1_4,hr4_0,hr4_5,hr4_6,hr4_41,hr4_40,hr4_7,hr4_9,hr4_77,hr4_76,hr4_11,hr4_13])
            refine ⟨⟨j2 + 1,_,by omega,rfl,rfl,ha12.eqs ?_⟩,?_⟩
            · rw [hcat2,List.flatMap_append,List.flatMap_cons,List.flatMap_nil,List.append_nil,← hTT2,hPe2];simp only [List.append_assoc,List.append_nil,List.nil_append]
            · simp only [RowKit.intOf];omega
        · have hjl2 : j2 = Le1_1.length := by omega
          subst hjl2
          rw [List.take_length,← hXEe1_1] at ha5
          repeat ((first | refine qA rfl ?_|refine qB ?_|refine qC rfl ?_|refine qD ?_|refine qE ?_|refine qF ?_|refine qG ?_|refine qH ?_);try simp (maxSteps:=1000000)(disch:=(first|omega|(simp only [qI,qJ,qK]<;>omega)|exact qL _)) only [go_sem,↓reduceIte,n0,reduceCtorEq,n1,n2,n3,n4,n5,i0,i1,i2,i3,i4,i5,i6,i7,hI2,hN2])
          exact ⟨_,hr1_2,hr2_0,hr2_5,hr2_6,hr2_41,hr2_40,hr2_7,hr2_9,ha5⟩
      · rintro ρ w13 ⟨r13,hr1_5,hr5_0,hr5_5,hr5_6,hr5_41,hr5_40,hr5_7,hr5_9,ha13⟩
        have hB13 : B ≤ w13.heap.size := Nat.le_trans hB ha13.upd.size
        have hv_13 := ha13.upd.blk_some hv hdv
        have hx1_13 := ha13.upd.blk_some hx1 hnx1
        repeat ((first | refine qA rfl ?_|refine qB ?_|refine qC rfl ?_|refine qD ?_|refine qE ?_|refine qF ?_|refine qG ?_|refine qH ?_);try simp (maxSteps:=1000000)(disch:=(first|omega|(simp only [qI,qJ,qK]<;>omega)|exact qL _)) only [go_sem,↓reduceIte,n0,reduceCtorEq,n1,n2,n3,n4,n5,i0,i1,i2,i3,i4,i5,i6,i7,hv_13,hx1_13,Int.toNat_natCast,Nat.mul_one,hq1_0,hq1_1,hq1_2,hnie1_1,hr1_5,hr5_0,hr5_5,hr5_6,hr5_41,hr5_40,hr5_7,hr5_9])
        have hTk13 : TagsM (OkS okM w.heap.size) w13 (.map qme1) y1.u := (hTe1.weaken fun b h1 h2 => ⟨h2,h1⟩).keep (ha13.upd.keeps fun b hb hk => hd b hb hk.1)
        refine (TagsLen_fn (ok := OkS okM w.heap.size) w13 hx1_13 (to := o1 + (j1 * 3 + 2)) hq1_2 hTk13).mono ?_
        rintro _ w13' ⟨rfl,rfl⟩
        have hul13 : y1.u.length ≤ 32767 := hfue1.1
        have ew13 : IntKind.u32.wrap (y1.u.length : Int) = y1.u.length := u32_wrap (by omega)
        have ez13 : IntKind.u32.wrap (0 + (y1.u.length : Int)) = y1.u.length := by rw [Int.zero_add,u32_wrap (by omega)]
        simp (maxSteps:=1000000)(disch:=(first|omega|(simp only [qI,qJ,qK]<;>omega)|exact qL _)) only [go_sem,↓reduceIte,n0,reduceCtorEq,n1,n2,n3,n4,n5,i0,i1,i2,i3,i4,i5,i6,i7,hv_13,hx1_13,Int.toNat_natCast,Nat.mul_one,hq1_0,hq1_1,hq1_2,hnie1_1,hr1_5,hr5_0,hr5_5,hr5_6,hr5_41,hr5_40,hr5_7,hr5_9,ew13,ez13]
        refine (AppendUvarint_fn _ _ _ ha13.own hB13 y1.u.length (by omega) (by simp only [List.length_append,List.length_nil];omega)).mono ?_
        rintro r14 w14 hc14
        rw [← hXUe1] at hc14
        have ha14 := ha13.trans hc14
        have hB14 : B ≤ w14.heap.size := Nat.le_trans hB ha14.upd.size
        have hv_14 := ha14.upd.blk_some hv hdv
        have hx1_14 := ha14.upd.blk_some hx1 hnx1
        repeat ((first | refine qA rfl ?_|refine qB ?_|refine qC rfl ?_|refine qD ?_|refine qE ?_|refine qF ?_|refine qG ?_|refine qH ?_);try simp (maxSteps:=1000000)(disch:=(first|omega|(simp only [qI,qJ,qK]<;>omega)|exact qL _)) only [go_sem,↓reduceIte,n0,reduceCtorEq,n1,n2,n3,n4,n5,i0,i1,i2,i3,i4,i5,i6,i7,hv_14,hx1_14,Int.toNat_natCast,Nat.mul_one,hq1_0,hq1_1,hq1_2,hnie1_1,hr1_5,hr5_0,hr5_5,hr5_6,hr5_41,hr5_40,hr5_7,hr5_9])
        have hTk14 : TagsM (OkS okM w.heap.size) w14 (.map qme1) y1.u := (hTe1.weaken fun b h1 h2 => ⟨h2,h1⟩).keep (ha14.upd.keeps fun b hb hk => hd b hb hk.1)
        refine (AppendEach_fn (ok := OkS okM w.heap.size) _ _ _ ha14.own hB14 hx1_14 (to := o1 + (j1 * 3 + 2)) hq1_2 hTk14 (rising_keys hfue1) hfue1.1 (tags_small hfue1 hTk14) (hdK ha14) (ownK ha14 (blk_lt hx1) hnx1) (by simp only [List.length_append,List.length_nil];omega)).mono ?_
        rintro r15 w15 hc15
        rw [← hXTe1] at hc15
        have ha15 := ha14.trans hc15
        have hB15 : B ≤ w15.heap.size := Nat.le_trans hB ha15.upd.size
        have hv_15 := ha15.upd.blk_some hv hdv
        have hx1_15 := ha15.upd.blk_some hx1 hnx1
        repeat ((first | refine qA rfl ?_|refine qB ?_|refine qC rfl ?_|refine qD ?_|refine qE ?_|refine qF ?_|refine qG ?_|refine qH ?_);try simp (maxSteps:=1000000)(disch:=(first|omega|(simp only [qI,qJ,qK]<;>omega)|exact qL _)) only [go_sem,↓reduceIte,n0,reduceCtorEq,n1,n2,n3,n4,n5,i0,i1,i2,i3,i4,i5,i6,i7,hr1_5,hr5_0,hr5_5,hr5_6,hr5_41,hr5_40,hr5_7,hr5_9])
        refine ⟨⟨j1 + 1,_,by omega,rfl,rfl,ha15.eqs ?_⟩,?_⟩
        · rw [hcat1,List.flatMap_append,List.flatMap_cons,List.flatMap_nil,List.append_nil,← hTT1,hPe1];simp only [List.append_assoc,List.append_nil,List.nil_append]
        · simp only [RowKit.intOf];omega
    · have hjl1 : j1 = (t.at 0).l.length := by omega
      subst hjl1
      rw [List.take_length,← hXE_0] at ha2
      repeat ((first | refine qA rfl ?_|refine qB ?_|refine qC rfl ?_|refine qD ?_|refine qE ?_|refine qF ?_|refine qG ?_|refine qH ?_);try simp (maxSteps:=1000000)(disch:=(first|omega|(simp only [qI,qJ,qK]<;>omega)|exact qL _)) only [go_sem,↓reduceIte,n0,reduceCtorEq,n1,n2,n3,n4,n5,i0,i1,i2,i3,i4,i5,i6,i7,hI1,hN1])
      exact ⟨_,hr1_1,hr1_0,hr1_5,hr1_6,ha2⟩
  · rintro ρ w16 ⟨r16,hr1_6,hr6_0,hr6_5,hr6_6,ha16⟩
    have hB16 : B ≤ w16.heap.size := Nat.le_trans hB ha16.upd.size
    have hv_16 := ha16.upd.blk_some hv hdv
    repeat ((first | refine qA rfl ?_|refine qB ?_|refine qC rfl ?_|refine qD ?_|refine qE ?_|refine qF ?_|refine qG ?_|refine qH ?_);try simp (maxSteps:=1000000)(disch:=(first|omega|(simp only [qI,qJ,qK]<;>omega)|exact qL _)) only [go_sem,↓reduceIte,n0,reduceCtorEq,n1,n2,n3,n4,n5,i0,i1,i2,i3,i4,i5,i6,i7,hv_16,hr1_6,hr6_0,hr6_5,hr6_6])
    have hTk16 : TagsM (OkS okM w.heap.size) w16 (.map qm) t.u := (hT.weaken fun b h1 h2 => ⟨h2,h1⟩).keep (ha16.upd.keeps fun b hb hk => hd b hb hk.1)
    refine (TagsLen_fn (ok := OkS okM w.heap.size) w16 hv_16 (to := 2) (show (#[.int .i16 ver,.slice ab_0 (t.at 0).l.length ac_0,.map qm] : Array Value)[2]? = some (.map qm) from rfl) hTk16).mono ?_
    rintro _ w16' ⟨rfl,rfl⟩
    have hul16 : t.u.length ≤ 32767 := hfu.1
    have ew16 : IntKind.u32.wrap (t.u.length : Int) = t.u.length := u32_wrap (by omega)
    have ez16 : IntKind.u32.wrap (0 + (t.u.length : Int)) = t.u.length := by rw [Int.zero_add,u32_wrap (by omega)]
    simp (maxSteps:=1000000)(disch:=(first|omega|(simp only [qI,qJ,qK]<;>omega)|exact qL _)) only [go_sem,↓reduceIte,n0,reduceCtorEq,n1,n2,n3,n4,n5,i0,i1,i2,i3,i4,i5,i6,i7,hv_16,hr1_6,hr6_0,hr6_5,hr6_6,ew16,ez16]
    refine (AppendUvarint_fn _ _ _ ha16.own hB16 t.u.length (by omega) (by simp only [List.length_append,List.length_nil];omega)).mono ?_
    rintro r17 w17 hc17
    rw [← hXU] at hc17
    have ha17 := ha16.trans hc17
    have hB17 : B ≤ w17.heap.size := Nat.le_trans hB ha17.upd.size
    have hv_17 := ha17.upd.blk_some hv hdv
    repeat ((first | refine qA rfl ?_|refine qB ?_|refine qC rfl ?_|refine qD ?_|refine qE ?_|refine qF ?_|refine qG ?_|refine qH ?_);try simp (maxSteps:=1000000)(disch:=(first|omega|(simp only [qI,qJ,qK]<;>omega)|exact qL _)) only [go_sem,↓reduceIte,n0,reduceCtorEq,n1,n2,n3,n4,n5,i0,i1,i2,i3,i4,i5,i6,i7,hv_17,hr1_6,hr6_0,hr6_5,hr6_6])
    have hTk17 : TagsM (OkS okM w.heap.size) w17 (.map qm) t.u := (hT.weaken fun b h1 h2 => ⟨h2,h1⟩).keep (ha17.upd.keeps fun b hb hk => hd b hb hk.1)
    refine (AppendEach_fn (ok := OkS okM w.heap.size) _ _ _ ha17.own hB17 hv_17 (to := 2) (show (#[.int .i16 ver,.slice ab_0 (t.at 0).l.length ac_0,.map qm] : Array Value)[2]? = some (.map qm) from rfl) hTk17 (rising_keys hfu) hfu.1 (tags_small hfu hTk17) (hdK ha17) (ownK ha17 (blk_lt hv) hdv) (by simp only [List.length_append,List.length_nil];omega)).mono ?_
    rintro r18 w18 hc18
    rw [← hXT] at hc18
    have ha18 := ha17.trans hc18
    have hB18 : B ≤ w18.heap.size := Nat.le_trans hB ha18.upd.size
    have hv_18 := ha18.upd.blk_some hv hdv
    repeat ((first | refine qA rfl ?_|refine qB ?_|refine qC rfl ?_|refine qD ?_|refine qE ?_|refine qF ?_|refine qG ?_|refine qH ?_);try simp (maxSteps:=1000000)(disch:=(first|omega|(simp only [qI,qJ,qK]<;>omega)|exact qL _)) only [go_sem,↓reduceIte,n0,reduceCtorEq,n1,n2,n3,n4,n5,i0,i1,i2,i3,i4,i5,i6,i7,hv_18,hr1_6,hr6_0,hr6_5,hr6_6])
    refine ha18.eqs ?_
    rw [hP];simp only [List.append_assoc,List.append_nil,List.nil_append]
end Ms

namespace Ms
open Go.World renaming size_alloc → qI
open Ms renaming size_wr → qJ,size_drew → qK,not_noB → qL
open W renaming seqR → qA,seq → qB,regR → qC,condK → qD,block → qE,skip → qF,ret → qG,exit → qH
open Nat renaming reduceEqDiff → n0,reduceAdd → n1,reduceMul → n2,reduceSub → n3,reduceLT → n4,reduceLeDiff → n5
open Int renaming reduceEq → i0,reduceLT → i1,reduceLE → i2,reduceNeg → i3,reduceAdd → i4,reduceSub → i5,reduceMul → i6,reduceToNat → i7
set_option maxRecDepth 8000
open Go Go.Proofs Go.Shelf
attribute [local congr] W_congr WPsq_congr WPp_congr optK_congr addrK_congr intK_congr boolK_congr sliceK_congr tupleK_congr funcK_congr Fn_congr rawK_congr takeK_congr stepK_congr convK_congr aggK_congr

theorem KeyDescribeShareGroupOffsetsRequest_fn (w : World) (vb : Nat) : Fn Tryz.prog 270 #[.pointer (some ⟨vb,0,none⟩)] w fun r w' => r = .int .i16 90 ∧ w' = w := by
  refine fn_of_W Tryz.func270 rfl Tryz.results270 Tryz.ntmps270 rfl ?_
  repeat ((first | refine qA rfl ?_|refine qB ?_|refine qC rfl ?_|refine qD ?_|refine qE ?_|refine qF ?_|refine qG ?_|refine qH ?_);try simp (maxSteps:=1000000)(disch:=(first|omega|(simp only [qI,qJ,qK]<;>omega)|exact qL _)) only [go_sem,↓reduceIte,n0,reduceCtorEq,n1,n2,n3,n4,n5,i0,i1,i2,i3,i4,i5,i6,i7])
  all_goals first | rfl | exact ⟨rfl,rfl⟩
theorem GetVDescribeShareGroupOffsetsRequest_fn (w : World) {vb : Nat} {ver : Int} {cells : List Value} (hb : blk w vb = some ((.int .i16 ver :: cells).toArray,123,(0,0))) : Fn Tryz.prog 268 #[.pointer (some ⟨vb,0,none⟩)] w fun r w' => r = .int .i16 ver ∧ w' = w := by
  refine fn_of_W Tryz.func268 rfl Tryz.results268 Tryz.ntmps268 rfl ?_
  repeat ((first | refine qA rfl ?_|refine qB ?_|refine qC rfl ?_|refine qD ?_|refine qE ?_|refine qF ?_|refine qG ?_|refine qH ?_);try simp (maxSteps:=1000000)(disch:=(first|omega|(simp only [qI,qJ,qK]<;>omega)|exact qL _)) only [go_sem,↓reduceIte,n0,reduceCtorEq,n1,n2,n3,n4,n5,i0,i1,i2,i3,i4,i5,i6,i7,hb])
  all_goals first | rfl | exact ⟨rfl,rfl⟩
theorem IsFlexDescribeShareGroupOffsetsRequest_fn (w : World) {vb : Nat} {ver : Int} {cells : List Value} (hlo : 0 ≤ ver) (hhi : ver ≤ 1) (hb : blk w vb = some ((.int .i16 ver :: cells).toArray,123,(0,0))) : Fn Tryz.prog 269 #[.pointer (some ⟨vb,0,none⟩)] w fun r w' => r = .bool (flexB 0 ver) ∧ w' = w := by
  refine fn_of_W Tryz.func269 rfl Tryz.results269 Tryz.ntmps269 rfl ?_
  by_cases hv : 0 ≤ ver
  · repeat ((first | refine qA rfl ?_|refine qB ?_|refine qC rfl ?_|refine qD ?_|refine qE ?_|refine qF ?_|refine qG ?_|refine qH ?_);try simp (maxSteps:=1000000)(disch:=(first|omega|(simp only [qI,qJ,qK]<;>omega)|exact qL _)) only [go_sem,↓reduceIte,n0,reduceCtorEq,n1,n2,n3,n4,n5,i0,i1,i2,i3,i4,i5,i6,i7,hb])
    all_goals simp [flexB] <;> omega
  · repeat ((first | refine qA rfl ?_|refine qB ?_|refine qC rfl ?_|refine qD ?_|refine qE ?_|refine qF ?_|refine qG ?_|refine qH ?_);try simp (maxSteps:=1000000)(disch:=(first|omega|(simp only [qI,qJ,qK]<;>omega)|exact qL _)) only [go_sem,↓reduceIte,n0,reduceCtorEq,n1,n2,n3,n4,n5,i0,i1,i2,i3,i4,i5,i6,i7,hb])
    all_goals simp [flexB] <;> omega
theorem mKeyDescribeShareGroupOffsetsRequest : methodP Tryz.prog 73 "Key" = some (270,true) := by kernel_rfl
theorem kKeyDescribeShareGroupOffsetsRequest : callable Tryz.prog 270 = true := by kernel_rfl
theorem mGetVDescribeShareGroupOffsetsRequest : methodP Tryz.prog 73 "GetVersion" = some (268,true) := by kernel_rfl
theorem kGetVDescribeShareGroupOffsetsRequest : callable Tryz.prog 268 = true := by kernel_rfl
theorem mIsFlexDescribeShareGroupOffsetsRequest : methodP Tryz.prog 73 "IsFlexible" = some (269,true) := by kernel_rfl
theorem kIsFlexDescribeShareGroupOffsetsRequest : callable Tryz.prog 269 = true := by kernel_rfl
theorem mAppDescribeShareGroupOffsetsRequest : methodP Tryz.prog 73 "AppendTo" = some (267,true) := by kernel_rfl
theorem kAppDescribeShareGroupOffsetsRequest : callable Tryz.prog 267 = true := by kernel_rfl
theorem recvDescribeShareGroupOffsetsRequest : recvOk Tryz.prog 73 true = true := by kernel_rfl

set_option maxHeartbeats 2000000 in
theorem reqDescribeShareGroupOffsetsRequest {d : Nat} {ver : Int} {vb B : Nat} {cells : List Value} {t : Tree} (hlo : 0 ≤ ver) (hhi : ver ≤ 1) (hvb : vb < B) (hcn : partS (d + 3) fs_DescribeShareGroupOffsetsRequest ver (flexB 0 ver) (cnP (d + 3) ver (flexB 0 ver) fs_DescribeShareGroupOffsetsRequest t) = (partS (d + 3) fs_DescribeShareGroupOffsetsRequest ver (flexB 0 ver) t) ∧ FitW ver (d + 3) fs_DescribeShareGroupOffsetsRequest (cnP (d + 3) ver (flexB 0 ver) fs_DescribeShareGroupOffsetsRequest t)) (hl : (partS (d + 3) fs_DescribeShareGroupOffsetsRequest ver (flexB 0 ver) t).length ≤ 2 ^ 40) :
    ReqOk Tryz.prog 5 73 (.pointer (some ⟨vb,0,none⟩)) B 90 ver (flexB 0 ver) (partS (d + 3) fs_DescribeShareGroupOffsetsRequest ver (flexB 0 ver) t) (fun w => (blk w vb = some ((.int .i16 ver :: cells).toArray,123,(0,0))) ∧ RepS true (d + 3) fs_DescribeShareGroupOffsetsRequest (fun b => b < B) w (cnP (d + 3) ver (flexB 0 ver) fs_DescribeShareGroupOffsetsRequest t) cells) := by
  refine ⟨fun w w' h hu => ⟨hu.blk_some h.1 (by omega),?_⟩,recvDescribeShareGroupOffsetsRequest,⟨_,mKeyDescribeShareGroupOffsetsRequest,kKeyDescribeShareGroupOffsetsRequest,fun w _ => KeyDescribeShareGroupOffsetsRequest_fn w vb⟩,⟨_,mGetVDescribeShareGroupOffsetsRequest,kGetVDescribeShareGroupOffsetsRequest,fun w h => GetVDescribeShareGroupOffsetsRequest_fn w h.1⟩,⟨_,mIsFlexDescribeShareGroupOffsetsRequest,kIsFlexDescribeShareGroupOffsetsRequest,fun w h => IsFlexDescribeShareGroupOffsetsRequest_fn w hlo hhi h.1⟩,⟨_,mAppDescribeShareGroupOffsetsRequest,kAppDescribeShareGroupOffsetsRequest,fun w v s B' h hB hB' ho hs => ?_⟩⟩
  · exact (RepS_lay true (d + 3) fs_DescribeShareGroupOffsetsRequest).keep h.2 (hu.keeps fun b _ hk hb => by omega)
  have hcl : (0 ≤ ver ∧ ver ≤ 1) := by omega
  rcases hcl with ⟨h1,h2⟩
  · have hfl : flexB 0 ver = true := by simp only [flexB,Bool.and_eq_true,decide_eq_true_eq];omega
    rw [hfl] at hcn h hl ⊢
    refine (appDescribeShareGroupOffsetsRequest_0 (d := d) (B := B') h1 h2 _ cells v s w ho hB' h.1 h.2 hcn.2 (fun b hb h1 h2 => by have := Own.above ho h2;omega) (fun h => by have := Own.above ho h;omega) (by rw [hcn.1];omega)).mono ?_
    intro r w' h6
    rw [hcn.1] at h6
    exact h6

set_option maxHeartbeats 2000000 in
theorem FrameDescribeShareGroupOffsetsRequest_fn {d : Nat} {ok : Blocks} {ev : Value} (ver : Nat) (hv : ver ≤ 1) (t : Tree) (has : Bool) (id : List UInt8) (number : Int) (b : Value) (w : World) (hb : BytesV ok w b (partS (d + 3) fs_DescribeShareGroupOffsetsRequest ver (flexB 0 ver) t)) (hG : Glo ev w) (hrd : rdP (d + 3) ver (flexB 0 ver) fs_DescribeShareGroupOffsetsRequest (some (partS (d + 3) fs_DescribeShareGroupOffsetsRequest ver (flexB 0 ver) t)) = (cnP (d + 3) ver (flexB 0 ver) fs_DescribeShareGroupOffsetsRequest t,some []))
    (hcn : partS (d + 3) fs_DescribeShareGroupOffsetsRequest ver (flexB 0 ver) (cnP (d + 3) ver (flexB 0 ver) fs_DescribeShareGroupOffsetsRequest t) = (partS (d + 3) fs_DescribeShareGroupOffsetsRequest ver (flexB 0 ver) t) ∧ FitW ver (d + 3) fs_DescribeShareGroupOffsetsRequest (cnP (d + 3) ver (flexB 0 ver) fs_DescribeShareGroupOffsetsRequest t)) (hl : (partS (d + 3) fs_DescribeShareGroupOffsetsRequest ver (flexB 0 ver) t).length ≤ 2 ^ 40) (hid : id.length ≤ 32767) (hkv : ¬ ((90 : Int) = 7 ∧ (ver : Int) = 0)) :
    Fn Tryz.prog 45 #[.agg #[.bool has,strV id],.int .i32 number,.int .i64 ver,b] w fun r w' => (∃ v,r = .tuple #[v,.bool true] ∧ OwnBy 5 w.heap.size w' v (frameS 90 ver number (!has) id (flexB 0 ver) (partS (d + 3) fs_DescribeShareGroupOffsetsRequest ver (flexB 0 ver) t))) ∧ Ext w w' := by
  obtain ⟨ba,bc,rfl,_⟩ := hb.shape
  have hgl := hG.lt
  have ew : IntKind.i16.wrap (ver : Int) = ver := i16_wrap (by omega)
  have hE0 : Ext w (w.alloc (.cells #[.bool has,strV id] 23)) := Upd.alloc (Upd.refl _ _) _
  have hz0 : (w.alloc (.cells #[.bool has,strV id] 23)).heap.size = w.heap.size + 1 := World.size_alloc _ _
  have hi0 : blk (w.alloc (.cells #[.bool has,strV id] 23)) w.heap.size = some (#[.bool has,strV id],23,(0,0)) := blk_alloc_new rfl
  refine fn_of_W Tryz.func45 rfl Tryz.results45 Tryz.ntmps45 rfl ?_
  repeat ((first | refine qA rfl ?_|refine qB ?_|refine qC rfl ?_|refine qD ?_|refine qE ?_|refine qF ?_|refine qG ?_|refine qH ?_);try simp (maxSteps:=1000000)(disch:=(first|omega|(simp only [qI,qJ,qK]<;>omega)|exact qL _)) only [go_sem,↓reduceIte,n0,reduceCtorEq,n1,n2,n3,n4,n5,i0,i1,i2,i3,i4,i5,i6,i7,ew,cells_strV,flat_strV])
  generalize (w.alloc (.cells #[.bool has,strV id] 23)) = w0 at *
  refine (NewPtrDescribeShareGroupOffsetsRequest_fn w0).mono ?_
  rintro _ w1 ⟨rfl,hb1,hE1⟩
  have hz1 := blk_lt hb1
  repeat ((first | refine qA rfl ?_|refine qB ?_|refine qC rfl ?_|refine qD ?_|refine qE ?_|refine qF ?_|refine qG ?_|refine qH ?_);try simp (maxSteps:=1000000)(disch:=(first|omega|(simp only [qI,qJ,qK]<;>omega)|exact qL _)) only [go_sem,↓reduceIte,n0,reduceCtorEq,n1,n2,n3,n4,n5,i0,i1,i2,i3,i4,i5,i6,i7,ew])
  refine (SetVersionDescribeShareGroupOffsetsRequest_fn w1 (vb := w0.heap.size) ver hb1).mono ?_
  rintro _ w2 ⟨hb2,hU2⟩
  have hz2 := hU2.size
  have hE2 : Ext w0 w2 := hE1.more hU2 fun b hb h => by omega
  repeat ((first | refine qA rfl ?_|refine qB ?_|refine qC rfl ?_|refine qD ?_|refine qE ?_|refine qF ?_|refine qG ?_|refine qH ?_);try simp (maxSteps:=1000000)(disch:=(first|omega|(simp only [qI,qJ,qK]<;>omega)|exact qL _)) only [go_sem,↓reduceIte,n0,reduceCtorEq,n1,n2,n3,n4,n5,i0,i1,i2,i3,i4,i5,i6,i7,ew])
  refine wp_copyN ap_24_24 (ok := ok) (s := (partS (d + 3) fs_DescribeShareGroupOffsetsRequest ver (flexB 0 ver) t)) (v := .slice ba _ bc) (by first | rfl | simp (maxSteps:=1000000)(disch:=(first|omega|(simp only [qI,qJ,qK]<;>omega)|exact qL _)) only [go_sem,↓reduceIte,n0,reduceCtorEq,n1,n2,n3,n4,n5,i0,i1,i2,i3,i4,i5,i6,i7]) (by first | rfl | simp (maxSteps:=1000000)(disch:=(first|omega|(simp only [qI,qJ,qK]<;>omega)|exact qL _)) only [go_sem,↓reduceIte,n0,reduceCtorEq,n1,n2,n3,n4,n5,i0,i1,i2,i3,i4,i5,i6,i7]) (hb.keep (Ext.keeps (hE0.trans hE2) _)) (by omega) ?_
  intro v3 w3 ho3 hE3 hf3
  have hz3 := hE3.size
  have hb3 := hE3.blk_some hb2 _root_.id
  have hG3 : Glo ev w3 := hG.updS ((hE0.trans hE2).trans hE3) _root_.id _root_.id
  obtain ⟨a3,c3,rfl,_⟩ := ho3.shape
  try simp (maxSteps:=1000000)(disch:=(first|omega|(simp only [qI,qJ,qK]<;>omega)|exact qL _)) only [go_sem,↓reduceIte,n0,reduceCtorEq,n1,n2,n3,n4,n5,i0,i1,i2,i3,i4,i5,i6,i7]
  refine (ReadFromDescribeShareGroupOffsetsRequest_fn (d := d) (ok := fun b => b < w3.heap.size ∧ b ≠ w0.heap.size) (ev := ev) (ver := ver) (by omega) (by omega) w3 _ _ hb3 ((Own.bytes ho3 hf3).weaken fun b hb hk => ⟨hb,by omega⟩) (fun b hb => hb) hG3 ⟨by omega,by omega⟩).mono ?_
  rintro r4 w4 ⟨_,h4,hU4⟩
  rw [hrd] at h4
  obtain ⟨rfl,cells,hb4,hR4⟩ := h4 (by simp)
  have hz4 := hU4.size
  have hE4 : Ext w0 w4 := (hE2.trans hE3).more hU4 fun b hb h => by omega
  have hE04 := hE0.trans hE4
  have hi4 := hE4.blk_some hi0 _root_.id
  have hR4' : RepS true (d + 3) fs_DescribeShareGroupOffsetsRequest (fun b => b < w4.heap.size) w4 (cnP (d + 3) ver (flexB 0 ver) fs_DescribeShareGroupOffsetsRequest t) cells := (RepS_lay true (d + 3) fs_DescribeShareGroupOffsetsRequest).weaken hR4 fun b hb _ => hb
  try simp (maxSteps:=1000000)(disch:=(first|omega|(simp only [qI,qJ,qK]<;>omega)|exact qL _)) only [go_sem,↓reduceIte,n0,reduceCtorEq,n1,n2,n3,n4,n5,i0,i1,i2,i3,i4,i5,i6,i7]
  repeat ((first | refine qA rfl ?_|refine qB ?_|refine qC rfl ?_|refine qD ?_|refine qE ?_|refine qF ?_|refine qG ?_|refine qH ?_);try simp (maxSteps:=1000000)(disch:=(first|omega|(simp only [qI,qJ,qK]<;>omega)|exact qL _)) only [go_sem,↓reduceIte,n0,reduceCtorEq,n1,n2,n3,n4,n5,i0,i1,i2,i3,i4,i5,i6,i7,hi4,cellsAt_two])
  refine (framed_fn (reqDescribeShareGroupOffsetsRequest (d := d) (B := w4.heap.size) (vb := w0.heap.size) (cells := cells) (t := t) (by omega) (by omega) (by omega) hcn hl) rfl w4 ⟨hb4,hR4'⟩ (Nat.le_refl _) has id hid hl number hkv).mono ?_
  rintro r5 w5 ⟨ho5,hE5⟩
  obtain ⟨a5,c5,rfl,_⟩ := ho5.shape
  try simp (maxSteps:=1000000)(disch:=(first|omega|(simp only [qI,qJ,qK]<;>omega)|exact qL _)) only [go_sem,↓reduceIte,n0,reduceCtorEq,n1,n2,n3,n4,n5,i0,i1,i2,i3,i4,i5,i6,i7]
  repeat ((first | refine qA rfl ?_|refine qB ?_|refine qC rfl ?_|refine qD ?_|refine qE ?_|refine qF ?_|refine qG ?_|refine qH ?_);try simp (maxSteps:=1000000)(disch:=(first|omega|(simp only [qI,qJ,qK]<;>omega)|exact qL _)) only [go_sem,↓reduceIte,n0,reduceCtorEq,n1,n2,n3,n4,n5,i0,i1,i2,i3,i4,i5,i6,i7])
  exact ⟨⟨_,rfl,Own.mono ho5 hE04.size⟩,hE04.trans hE5⟩

end Ms

namespace Ms
open Go.World renaming size_alloc → qI
open Ms renaming size_wr → qJ,size_drew → qK,not_noB → qL
open W renaming seqR → qA,seq → qB,regR → qC,condK → qD,block → qE,skip → qF,ret → qG,exit → qH
open Nat renaming reduceEqDiff → n0,reduceAdd → n1,reduceMul → n2,reduceSub → n3,reduceLT → n4,reduceLeDiff → n5
open Int renaming reduceEq → i0,reduceLT → i1,reduceLE → i2,reduceNeg → i3,reduceAdd → i4,reduceSub → i5,reduceMul → i6,reduceToNat → i7
set_option maxRecDepth 8000
open Go Go.Proofs Go.Shelf
attribute [local congr] W_congr WPsq_congr WPp_congr optK_congr addrK_congr intK_congr boolK_congr sliceK_congr tupleK_congr funcK_congr Fn_congr rawK_congr takeK_congr stepK_congr convK_congr aggK_congr

set_option maxHeartbeats 4000000 in
theorem law_FrameDescribeShareGroupOffsetsRequest {ok : Blocks} {ev : Value} (n : Nat) (hn : n < 256) (has : Bool) (id : List UInt8) (number : Int) (hnum : -2147483648 ≤ number ∧ number < 2147483648) (t : Tree) (ct : List Value) (w : World) (ht : TreeC ok w t ct) (hsm : Small 4611686018427387903 t) (hG : Glo ev w) {N : Nat} (hN : N ≤ 1048576) (hsz : Sized N t) :
    Fn Tryz.prog 11 #[.int .u8 n,.agg #[.bool has,strV id],.int .i32 number,.agg ct.toArray] w fun r w' => r = .bool true ∧ Ext w w' := by
  obtain ⟨vS,vL,vU,rfl,hn',hS,hL,hU⟩ := ht.inv
  have f1 := hS.flat
  have f2 := SlR.flat hL
  have f3 := SlR.flat hU
  have hE : Ext w ((w.alloc (.cells #[.bool has,strV id] 23)).alloc (.cells #[.int .i64 t.n,vS,.bool t.null,vL,vU] 28)) := Upd.alloc (Upd.alloc (Upd.refl _ _) _) _
  refine fn_of_W Tryz.func11 rfl Tryz.results11 Tryz.ntmps11 rfl ?_
  repeat ((first | refine qA rfl ?_|refine qB ?_|refine qC rfl ?_|refine qD ?_|refine qE ?_|refine qF ?_|refine qG ?_|refine qH ?_);try simp (maxSteps:=1000000)(disch:=(first|omega|(simp only [qI,qJ,qK]<;>omega)|exact qL _)) only [go_sem,↓reduceIte,n0,reduceCtorEq,n1,n2,n3,n4,n5,i0,i1,i2,i3,i4,i5,i6,i7,f1,f2,f3,cellsAt_five,cellsAt_two,cells_strV,flat_strV])
  have hi1 : blk ((w.alloc (.cells #[.bool has,strV id] 23)).alloc (.cells #[.int .i64 t.n,vS,.bool t.null,vL,vU] 28)) w.heap.size = some (#[.bool has,strV id],23,(0,0)) := by simp (maxSteps:=1000000)(disch:=(first|omega|(simp only [qI,qJ,qK]<;>omega)|exact qL _)) only [go_sem,↓reduceIte,n0,reduceCtorEq,n1,n2,n3,n4,n5,i0,i1,i2,i3,i4,i5,i6,i7]
  have hb : blk ((w.alloc (.cells #[.bool has,strV id] 23)).alloc (.cells #[.int .i64 t.n,vS,.bool t.null,vL,vU] 28)) (w.heap.size + 1) = some (#[.int .i64 t.n,vS,.bool t.null,vL,vU],28,(0,0)) := by simp (maxSteps:=1000000)(disch:=(first|omega|(simp only [qI,qJ,qK]<;>omega)|exact qL _)) only [go_sem,↓reduceIte,n0,reduceCtorEq,n1,n2,n3,n4,n5,i0,i1,i2,i3,i4,i5,i6,i7]
  generalize ((w.alloc (.cells #[.bool has,strV id] 23)).alloc (.cells #[.int .i64 t.n,vS,.bool t.null,vL,vU] 28)) = w1 at *
  refine (zzFits4_fn has id w1).mono ?_
  rintro r2 w2 ⟨⟨b4,rfl⟩,hE2⟩
  have hE02 := hE.trans hE2
  have hi2 := hE2.blk_some hi1 _root_.id
  have hb2 := hE2.blk_some hb _root_.id
  cases b4 with
  | false =>
    try simp (maxSteps:=1000000)(disch:=(first|omega|(simp only [qI,qJ,qK]<;>omega)|exact qL _)) only [go_sem,↓reduceIte,n0,reduceCtorEq,n1,n2,n3,n4,n5,i0,i1,i2,i3,i4,i5,i6,i7]
    repeat ((first | refine qA rfl ?_|refine qB ?_|refine qC rfl ?_|refine qD ?_|refine qE ?_|refine qF ?_|refine qG ?_|refine qH ?_);try simp (maxSteps:=1000000)(disch:=(first|omega|(simp only [qI,qJ,qK]<;>omega)|exact qL _)) only [go_sem,↓reduceIte,n0,reduceCtorEq,n1,n2,n3,n4,n5,i0,i1,i2,i3,i4,i5,i6,i7])
    all_goals exact hE02
  | true =>
    try simp (maxSteps:=1000000)(disch:=(first|omega|(simp only [qI,qJ,qK]<;>omega)|exact qL _)) only [go_sem,↓reduceIte,n0,reduceCtorEq,n1,n2,n3,n4,n5,i0,i1,i2,i3,i4,i5,i6,i7,hb2,cellsAt_five]
    refine (zzFits1_fn (ok := ok) t _ w2 (ht.keep (Ext.keeps hE02 _)) hsm).mono ?_
    rintro r3 w3 ⟨⟨bb,rfl⟩,hE3⟩
    have hE03 := hE02.trans hE3
    have hi3 := hE3.blk_some hi2 _root_.id
    have hb3 := hE3.blk_some hb2 _root_.id
    cases bb with
    | false =>
      try simp (maxSteps:=1000000)(disch:=(first|omega|(simp only [qI,qJ,qK]<;>omega)|exact qL _)) only [go_sem,↓reduceIte,n0,reduceCtorEq,n1,n2,n3,n4,n5,i0,i1,i2,i3,i4,i5,i6,i7]
      repeat ((first | refine qA rfl ?_|refine qB ?_|refine qC rfl ?_|refine qD ?_|refine qE ?_|refine qF ?_|refine qG ?_|refine qH ?_);try simp (maxSteps:=1000000)(disch:=(first|omega|(simp only [qI,qJ,qK]<;>omega)|exact qL _)) only [go_sem,↓reduceIte,n0,reduceCtorEq,n1,n2,n3,n4,n5,i0,i1,i2,i3,i4,i5,i6,i7])
      all_goals exact hE03
    | true =>
      try simp (maxSteps:=1000000)(disch:=(first|omega|(simp only [qI,qJ,qK]<;>omega)|exact qL _)) only [go_sem,↓reduceIte,n0,reduceCtorEq,n1,n2,n3,n4,n5,i0,i1,i2,i3,i4,i5,i6,i7]
      repeat ((first | refine qA rfl ?_|refine qB ?_|refine qC rfl ?_|refine qD ?_|refine qE ?_|refine qF ?_|refine qG ?_|refine qH ?_);try simp (maxSteps:=1000000)(disch:=(first|omega|(simp only [qI,qJ,qK]<;>omega)|exact qL _)) only [go_sem,↓reduceIte,n0,reduceCtorEq,n1,n2,n3,n4,n5,i0,i1,i2,i3,i4,i5,i6,i7])
      refine (MaxDescribeShareGroupOffsetsRequest_fn w3).mono ?_
      rintro _ w3m ⟨rfl,hE3m⟩
      repeat ((first | refine qA rfl ?_|refine qB ?_|refine qC rfl ?_|refine qD ?_|refine qE ?_|refine qF ?_|refine qG ?_|refine qH ?_);try simp (maxSteps:=1000000)(disch:=(first|omega|(simp only [qI,qJ,qK]<;>omega)|exact qL _)) only [go_sem,↓reduceIte,n0,reduceCtorEq,n1,n2,n3,n4,n5,i0,i1,i2,i3,i4,i5,i6,i7])
      refine (cDescribeShareGroupOffsetsRequest_fn w3m).mono ?_
      rintro r4 w4 ⟨⟨vs,rfl,hF0⟩,hE4⟩
      have hF : FldsV AnyB w4 vs fs_DescribeShareGroupOffsetsRequest := hF0.weaken fun _ _ _ => trivial
      have fF := SlR.flat hF
      try simp (maxSteps:=1000000)(disch:=(first|omega|(simp only [qI,qJ,qK]<;>omega)|exact qL _)) only [go_sem,↓reduceIte,n0,reduceCtorEq,n1,n2,n3,n4,n5,i0,i1,i2,i3,i4,i5,i6,i7]
      refine (version_fn w4 n 1 hn (by decide)).mono ?_
      rintro _ w4v ⟨rfl,rfl⟩
      have hE04 : Ext w w4v := (hE03.trans hE3m).trans hE4
      have hi4 := hE4.blk_some (hE3m.blk_some hi3 _root_.id) _root_.id
      have hb4 := hE4.blk_some (hE3m.blk_some hb3 _root_.id) _root_.id
      have hE5 : Ext w4v (wr (w4v.alloc (.cells #[.slice none 0 0,.int .i64 0] 34)) w4v.heap.size 0 [vs,.int .i64 0]) := (Upd.alloc (Upd.refl _ _) _).wr _ _ (.inl (Nat.le_refl _))
      have hm5 : blk (wr (w4v.alloc (.cells #[.slice none 0 0,.int .i64 0] 34)) w4v.heap.size 0 [vs,.int .i64 0]) w4v.heap.size = some (#[vs,.int .i64 0],34,(0,0)) := by simp (maxSteps:=1000000)(disch:=(first|omega|(simp only [qI,qJ,qK]<;>omega)|exact qL _)) only [go_sem,↓reduceIte,n0,reduceCtorEq,n1,n2,n3,n4,n5,i0,i1,i2,i3,i4,i5,i6,i7]
      try simp (maxSteps:=1000000)(disch:=(first|omega|(simp only [qI,qJ,qK]<;>omega)|exact qL _)) only [go_sem,↓reduceIte,n0,reduceCtorEq,n1,n2,n3,n4,n5,i0,i1,i2,i3,i4,i5,i6,i7,fF]
      generalize (wr (w4v.alloc (.cells #[.slice none 0 0,.int .i64 0] 34)) w4v.heap.size 0 [vs,.int .i64 0]) = w5 at *
      have hi5 := hE5.blk_some hi4 _root_.id
      have hb5 := hE5.blk_some hb4 _root_.id
      have hv3 : n % 2 < 2 := Nat.mod_lt _ (by omega)
      generalize n % 2 = ver at *
      have hE05 : Ext w w5 := hE04.trans hE5
      skip
      by_cases hidb : (32767 : Int) < (id.length : Int)
      · repeat ((first | refine qA rfl ?_|refine qB ?_|refine qC rfl ?_|refine qD ?_|refine qE ?_|refine qF ?_|refine qG ?_|refine qH ?_);try simp (maxSteps:=1000000)(disch:=(first|omega|(simp only [qI,qJ,qK]<;>omega)|exact qL _)) only [go_sem,↓reduceIte,n0,reduceCtorEq,n1,n2,n3,n4,n5,i0,i1,i2,i3,i4,i5,i6,i7,hi5,lenV_strV,hidb])
        all_goals exact hE05
      repeat ((first | refine qA rfl ?_|refine qB ?_|refine qC rfl ?_|refine qD ?_|refine qE ?_|refine qF ?_|refine qG ?_|refine qH ?_);try simp (maxSteps:=1000000)(disch:=(first|omega|(simp only [qI,qJ,qK]<;>omega)|exact qL _)) only [go_sem,↓reduceIte,n0,reduceCtorEq,n1,n2,n3,n4,n5,i0,i1,i2,i3,i4,i5,i6,i7,hi5,lenV_strV,hidb,hb5,hm5,cellsAt_five,cellsAt_two])
      have hokF : okF 3 fs_DescribeShareGroupOffsetsRequest = true := by decide
      have hokM : okM 3 fs_DescribeShareGroupOffsetsRequest = true := by decide
      have hokR : okR 3 ver (flexB 0 ver) fs_DescribeShareGroupOffsetsRequest = true := (by decide : ∀ v : Fin 2,okR 3 ((v.val : Nat) : Int) (flexB 0 ((v.val : Nat) : Int)) fs_DescribeShareGroupOffsetsRequest = true) ⟨ver,hv3⟩
      have hpl : (partS 4 fs_DescribeShareGroupOffsetsRequest ver (flexB 0 ver) t).length ≤ 2 ^ 40 := Nat.le_trans (partS_bound ver _ 3 fs_DescribeShareGroupOffsetsRequest N t hokM hsz) (Nat.le_trans (Nat.mul_le_mul_left _ (Nat.succ_le_succ hN)) (by decide))
      refine (Write_fn (ok := AnyB) (d := 3) fs_DescribeShareGroupOffsetsRequest 0 ver t vs _ w5 (hF.keep (Ext.keeps hE5 _)) hokF ((ht.weaken fun _ _ _ => trivial).keep (Ext.keeps hE05 _)) hsm hpl).mono ?_
      rintro r6 w6 ⟨ho6,hE6⟩
      have hE06 := hE05.trans hE6
      have hi6 := hE6.blk_some hi5 _root_.id
      obtain ⟨a6,c6,rfl,_⟩ := ho6.shape
      repeat ((first | refine qA rfl ?_|refine qB ?_|refine qC rfl ?_|refine qD ?_|refine qE ?_|refine qF ?_|refine qG ?_|refine qH ?_);try simp (maxSteps:=1000000)(disch:=(first|omega|(simp only [qI,qJ,qK]<;>omega)|exact qL _)) only [go_sem,↓reduceIte,n0,reduceCtorEq,n1,n2,n3,n4,n5,i0,i1,i2,i3,i4,i5,i6,i7,hi6,cellsAt_two])
      have hrd := (rdP_part ver (flexB 0 ver) 3 fs_DescribeShareGroupOffsetsRequest N t hokR hsz).1 []
      rw [List.append_nil] at hrd
      refine (FrameDescribeShareGroupOffsetsRequest_fn (d := 1) (ok := AnyB) (ev := ev) ver (by omega) t has id number _ w6 (Own.bytes (ok := AnyB) ho6 fun _ _ => trivial) (hG.updS hE06 _root_.id _root_.id) hrd (partS_cn ver (flexB 0 ver) 3 fs_DescribeShareGroupOffsetsRequest t hokR) hpl (by omega) (by omega)).mono ?_
      rintro _ w7 ⟨⟨v7,rfl,ho7⟩,hE7⟩
      have hE07 := hE06.trans hE7
      obtain ⟨a7,c7,rfl,_⟩ := ho7.shape
      have hi7 := hE7.blk_some hi6 _root_.id
      have hm7 := (hE6.trans hE7).blk_some hm5 _root_.id
      try simp (maxSteps:=1000000)(disch:=(first|omega|(simp only [qI,qJ,qK]<;>omega)|exact qL _)) only [go_sem,↓reduceIte,n0,reduceCtorEq,n1,n2,n3,n4,n5,i0,i1,i2,i3,i4,i5,i6,i7]
      repeat ((first | refine qA rfl ?_|refine qB ?_|refine qC rfl ?_|refine qD ?_|refine qE ?_|refine qF ?_|refine qG ?_|refine qH ?_);try simp (maxSteps:=1000000)(disch:=(first|omega|(simp only [qI,qJ,qK]<;>omega)|exact qL _)) only [go_sem,↓reduceIte,n0,reduceCtorEq,n1,n2,n3,n4,n5,i0,i1,i2,i3,i4,i5,i6,i7])
      have l1 := blk_lt hi7
      have l2 := blk_lt hm7
      refine W.drawR (.take 0 (.take 1 (.take 2 (.take 3 (.take 4 (.take 5 (.take 6 (.take 7 (.take 8 (.take 10 (.take 11 (.take 13 (.two 9 (.only 12 (.only 14 (.only 15 (.take 16 (.only 17 .done))))) 12 (.only 9 (.only 14 (.only 15 (.take 16 (.only 17 .done)))))))))))))))))) NoB mixed (by kernel_rfl) ?_
      have hEd : Ext w7 w7.drew := (Upd.refl _ _).drew
      have hE0d := hE07.trans hEd
      have hB6 := ((Own.bytes (ok := AnyB) ho6 fun _ _ => trivial).keep (Ext.keeps hE7 _)).keep (Ext.keeps hEd _)
      have hB7 := (Own.bytes (ok := AnyB) ho7 fun _ _ => trivial).keep (Ext.keeps hEd _)
      try simp (maxSteps:=1000000)(disch:=(first|omega|(simp only [qI,qJ,qK]<;>omega)|exact qL _)) only [go_sem,↓reduceIte,n0,reduceCtorEq,n1,n2,n3,n4,n5,i0,i1,i2,i3,i4,i5,i6,i7,hi7,hm7,fF,cellsAt_two,cells_strV,flat_strV,convK_strV]
      generalize w7.drew = w7d at *
      have hfl : (frameS 90 ver number (!has) id (flexB 0 ver) (partS 4 fs_DescribeShareGroupOffsetsRequest ver (flexB 0 ver) t)).length ≤ 2 ^ 42 := by
        have := frameB_len 90 ver number (!has) id (flexB 0 ver) (partS 4 fs_DescribeShareGroupOffsetsRequest ver (flexB 0 ver) t) (by omega)
        simp only [frameS,List.length_append,fixedS_len]
        omega
      have hsame : decide ((frameS 90 ver number (!has) id (flexB 0 ver) (partS 4 fs_DescribeShareGroupOffsetsRequest ver (flexB 0 ver) t)) = (frameS 90 ver number (!has) id (flexB 0 ver) (partS 4 fs_DescribeShareGroupOffsetsRequest ver (flexB 0 ver) t))) = true := decide_eq_true rfl
      refine ⟨?_,?_⟩
      · skip
        refine wp_octets (S := 9) (T := 24) (E := 5) (s := id) (by kernel_rfl) (by kernel_rfl) (by kernel_rfl) (by first | rfl | simp (maxSteps:=1000000)(disch:=(first|omega|(simp only [qI,qJ,qK]<;>omega)|exact qL _)) only [go_sem,↓reduceIte,n0,reduceCtorEq,n1,n2,n3,n4,n5,i0,i1,i2,i3,i4,i5,i6,i7]) ?_
        intro a8 k8 w8 hB8 hE8
        refine ⟨hE8,?_⟩
        try simp (maxSteps:=1000000)(disch:=(first|omega|(simp only [qI,qJ,qK]<;>omega)|exact qL _)) only [go_sem,↓reduceIte,n0,reduceCtorEq,n1,n2,n3,n4,n5,i0,i1,i2,i3,i4,i5,i6,i7]
        refine (Flexible_fn vs 0 ver fF w8).mono ?_
        rintro _ w9 ⟨rfl,hE9⟩
        have hE89 := hE8.trans hE9
        have hI := (hB8.weaken (ok' := AnyB) fun _ _ _ => trivial).keep (Ext.keeps hE9 _)
        refine ⟨hE89,?_⟩
        try simp (maxSteps:=1000000)(disch:=(first|omega|(simp only [qI,qJ,qK]<;>omega)|exact qL _)) only [go_sem,↓reduceIte,n0,reduceCtorEq,n1,n2,n3,n4,n5,i0,i1,i2,i3,i4,i5,i6,i7]
        refine (Frame_fn 90 ver number hnum has (flexB 0 ver) id (partS 4 fs_DescribeShareGroupOffsetsRequest ver (flexB 0 ver) t) _ _ w9 hI (hB6.keep (Ext.keeps hE89 _)) (by omega) hpl).mono ?_
        rintro r10 w10 ⟨ho10,hE10⟩
        have hE810 := hE89.trans hE10
        refine ⟨hE810,?_⟩
        obtain ⟨a10,c10,rfl,_⟩ := ho10.shape
        try simp (maxSteps:=1000000)(disch:=(first|omega|(simp only [qI,qJ,qK]<;>omega)|exact qL _)) only [go_sem,↓reduceIte,n0,reduceCtorEq,n1,n2,n3,n4,n5,i0,i1,i2,i3,i4,i5,i6,i7]
        refine (Same_fn (ok := AnyB) (frameS 90 ver number (!has) id (flexB 0 ver) (partS 4 fs_DescribeShareGroupOffsetsRequest ver (flexB 0 ver) t)) (frameS 90 ver number (!has) id (flexB 0 ver) (partS 4 fs_DescribeShareGroupOffsetsRequest ver (flexB 0 ver) t)) _ _ w10 (hB7.keep (Ext.keeps hE810 _)) (Own.bytes ho10 fun _ _ => trivial) (by omega)).mono ?_
        rintro _ w11 ⟨rfl,hE11⟩
        refine ⟨hE810.trans hE11,?_⟩
        try simp (maxSteps:=1000000)(disch:=(first|omega|(simp only [qI,qJ,qK]<;>omega)|exact qL _)) only [go_sem,↓reduceIte,n0,reduceCtorEq,n1,n2,n3,n4,n5,i0,i1,i2,i3,i4,i5,i6,i7,hsame]
        try refine ⟨hE810.trans hE11,?_⟩
        repeat ((first | refine qA rfl ?_|refine qB ?_|refine qC rfl ?_|refine qD ?_|refine qE ?_|refine qF ?_|refine qG ?_|refine qH ?_);try simp (maxSteps:=1000000)(disch:=(first|omega|(simp only [qI,qJ,qK]<;>omega)|exact qL _)) only [go_sem,↓reduceIte,n0,reduceCtorEq,n1,n2,n3,n4,n5,i0,i1,i2,i3,i4,i5,i6,i7,hsame])
        all_goals exact hE0d.trans (hE810.trans hE11)
      · skip
        refine (Flexible_fn vs 0 ver fF w7d).mono ?_
        rintro _ w8 ⟨rfl,hE8⟩
        refine ⟨hE8,?_⟩
        try simp (maxSteps:=1000000)(disch:=(first|omega|(simp only [qI,qJ,qK]<;>omega)|exact qL _)) only [go_sem,↓reduceIte,n0,reduceCtorEq,n1,n2,n3,n4,n5,i0,i1,i2,i3,i4,i5,i6,i7,convK_strV]
        refine wp_octets (S := 9) (T := 24) (E := 5) (s := id) (by kernel_rfl) (by kernel_rfl) (by kernel_rfl) (by first | rfl | simp (maxSteps:=1000000)(disch:=(first|omega|(simp only [qI,qJ,qK]<;>omega)|exact qL _)) only [go_sem,↓reduceIte,n0,reduceCtorEq,n1,n2,n3,n4,n5,i0,i1,i2,i3,i4,i5,i6,i7]) ?_
        intro a8 k8 w9 hB8 hE9
        have hE89 := hE8.trans hE9
        have hI := hB8.weaken (ok' := AnyB) fun _ _ _ => trivial
        refine ⟨hE89,?_⟩
        try simp (maxSteps:=1000000)(disch:=(first|omega|(simp only [qI,qJ,qK]<;>omega)|exact qL _)) only [go_sem,↓reduceIte,n0,reduceCtorEq,n1,n2,n3,n4,n5,i0,i1,i2,i3,i4,i5,i6,i7]
        refine (Frame_fn 90 ver number hnum has (flexB 0 ver) id (partS 4 fs_DescribeShareGroupOffsetsRequest ver (flexB 0 ver) t) _ _ w9 hI (hB6.keep (Ext.keeps hE89 _)) (by omega) hpl).mono ?_
        rintro r10 w10 ⟨ho10,hE10⟩
        have hE810 := hE89.trans hE10
        refine ⟨hE810,?_⟩
        obtain ⟨a10,c10,rfl,_⟩ := ho10.shape
        try simp (maxSteps:=1000000)(disch:=(first|omega|(simp only [qI,qJ,qK]<;>omega)|exact qL _)) only [go_sem,↓reduceIte,n0,reduceCtorEq,n1,n2,n3,n4,n5,i0,i1,i2,i3,i4,i5,i6,i7]
        refine (Same_fn (ok := AnyB) (frameS 90 ver number (!has) id (flexB 0 ver) (partS 4 fs_DescribeShareGroupOffsetsRequest ver (flexB 0 ver) t)) (frameS 90 ver number (!has) id (flexB 0 ver) (partS 4 fs_DescribeShareGroupOffsetsRequest ver (flexB 0 ver) t)) _ _ w10 (hB7.keep (Ext.keeps hE810 _)) (Own.bytes ho10 fun _ _ => trivial) (by omega)).mono ?_
        rintro _ w11 ⟨rfl,hE11⟩
        refine ⟨hE810.trans hE11,?_⟩
        try simp (maxSteps:=1000000)(disch:=(first|omega|(simp only [qI,qJ,qK]<;>omega)|exact qL _)) only [go_sem,↓reduceIte,n0,reduceCtorEq,n1,n2,n3,n4,n5,i0,i1,i2,i3,i4,i5,i6,i7,hsame]
        try refine ⟨hE810.trans hE11,?_⟩
        repeat ((first | refine qA rfl ?_|refine qB ?_|refine qC rfl ?_|refine qD ?_|refine qE ?_|refine qF ?_|refine qG ?_|refine qH ?_);try simp (maxSteps:=1000000)(disch:=(first|omega|(simp only [qI,qJ,qK]<;>omega)|exact qL _)) only [go_sem,↓reduceIte,n0,reduceCtorEq,n1,n2,n3,n4,n5,i0,i1,i2,i3,i4,i5,i6,i7,hsame])
        all_goals exact hE0d.trans (hE810.trans hE11)

end Ms

