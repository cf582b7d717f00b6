/- A part of the proof: see the last text. -/
import Derived.Test.YtdpckciobjkobaaGreatDoorC06
import Derived.Test.YtdpckciobjkobaaGreatDoorC07
import Derived.Test.YtdpckciobjkobaaGreatDoorC10
import Derived.Test.YtdpckciobjkobaaGreatDoorC11
import Derived.Test.YtdpckciobjkobaaGreatDoorStreamsGroupDescribeRequestP0
set_option linter.unusedSimpArgs false
set_option linter.unusedVariables false
namespace Ms
open Go.World renaming size_alloc → qI
open Ms renaming size_wr → qJ,size_drew → qK,not_noB → qL
open W renaming seqR → qA,seq → qB,regR → qC,condK → qD,block → qE,skip → qF,ret → qG,exit → qH
open Nat renaming reduceEqDiff → n0,reduceAdd → n1,reduceMul → n2,reduceSub → n3,reduceLT → n4,reduceLeDiff → n5
open Int renaming reduceEq → i0,reduceLT → i1,reduceLE → i2,reduceNeg → i3,reduceAdd → i4,reduceSub → i5,reduceMul → i6,reduceToNat → i7
set_option maxRecDepth 8000
open Go Go.Proofs Go.Shelf
attribute [local congr] W_congr WPsq_congr WPp_congr optK_congr addrK_congr intK_congr boolK_congr sliceK_congr tupleK_congr funcK_congr Fn_congr rawK_congr takeK_congr stepK_congr convK_congr aggK_congr

set_option maxHeartbeats 4000000 in
theorem appStreamsGroupDescribeRequest_1 {d B : Nat} {okM : Blocks} {ver : Int} (hlo : 1 ≤ ver) (hhi : ver ≤ 1) (t : Tree) (cells : List Value) (v : Value) (s : List UInt8) (w : World) {vb : Nat} (ho : OwnBy 5 B w v s) (hB : B ≤ w.heap.size) (hvb : blk w vb = some ((.int .i16 ver :: cells).toArray,117,(0,0)))
    (hR : RepS true (d + 1) fs_StreamsGroupDescribeRequest okM w t cells) (hfit : FitW ver (d + 1) fs_StreamsGroupDescribeRequest t) (hd : ∀ b,b < w.heap.size → okM b → ¬ ownB v b) (hdv : ¬ ownB v vb) (hlen : s.length + (partS (d + 1) fs_StreamsGroupDescribeRequest ver true t).length ≤ 2 ^ 41) :
    Fn Tryz.prog 259 #[.pointer (some ⟨vb,0,none⟩),v] w fun r w' => AppR 5 B w v s (partS (d + 1) fs_StreamsGroupDescribeRequest ver true t) r w' := by
  obtain ⟨⟨g_0,g_1,g_2,-⟩,hfu⟩ := hfit
  replace g_0 : hasS fStreamsGroupDescribeRequest_0 ver = true → FitWF (FitW ver d) ver fStreamsGroupDescribeRequest_0 (t.at 0) := g_0
  have hh_0 : hasS fStreamsGroupDescribeRequest_0 ver = true := hasS_t (by show (0 : Int) ≤ ver;omega) (by show (-1 : Int) < 0 ∨ ver ≤ (-1 : Int);omega)
  replace g_0 := g_0 hh_0
  replace g_1 : hasS fStreamsGroupDescribeRequest_1 ver = true → FitWF (FitW ver d) ver fStreamsGroupDescribeRequest_1 (t.at 1) := g_1
  have hh_1 : hasS fStreamsGroupDescribeRequest_1 ver = true := hasS_t (by show (0 : Int) ≤ ver;omega) (by show (-1 : Int) < 0 ∨ ver ≤ (-1 : Int);omega)
  replace g_1 := g_1 hh_1
  replace g_2 : hasS fStreamsGroupDescribeRequest_2 ver = true → FitWF (FitW ver d) ver fStreamsGroupDescribeRequest_2 (t.at 2) := g_2
  have hh_2 : hasS fStreamsGroupDescribeRequest_2 ver = true := hasS_t (by show (1 : Int) ≤ ver;omega) (by show (-1 : Int) < 0 ∨ ver ≤ (-1 : Int);omega)
  replace g_2 := g_2 hh_2
  obtain ⟨cs,q,hcs,hL,hT⟩ := hR.inv
  obtain ⟨c_0,e_0,rfl,h_0,c_1,e_1,rfl,h_1,c_2,e_2,rfl,h_2,rfl⟩ := hL
  replace h_0 : RepF (RepS true d) (szS true d) fStreamsGroupDescribeRequest_0 okM w (t.at 0) c_0 := h_0
  replace h_1 : RepF (RepS true d) (szS true d) fStreamsGroupDescribeRequest_1 okM w (t.at 1) c_1 := h_1
  replace h_2 : RepF (RepS true d) (szS true d) fStreamsGroupDescribeRequest_2 okM w (t.at 2) c_2 := h_2
  obtain ⟨p_0,rfl,hs_0⟩ := RepF_listW g_0 rfl (by decide) h_0
  obtain ⟨ab_0,ac_0,rfl,_⟩ := SlR.shape hs_0
  have hgl_0 := g_0.list rfl
  have hll_0 := hgl_0.1
  obtain rfl := (RepF_num (by decide)).1 h_1
  obtain rfl := (RepF_num (by decide)).1 h_2
  obtain ⟨qm,rfl⟩ := hT.shape
  have hv : blk w vb = some (#[.int .i16 ver,.slice ab_0 (t.at 0).l.length ac_0,.bool (decide ((t.at 1).n % 2 = 1)),.bool (decide ((t.at 2).n % 2 = 1)),.map qm],117,(0,0)) := by rw [hvb,hcs];rfl
  clear hvb hcs
  obtain ⟨XL_0,hXL_0⟩ : ∃ X,X = uvarS ((t.at 0).l.length + 1) := ⟨_,rfl⟩
  obtain ⟨XE_0,hXE_0⟩ : ∃ X,X = (t.at 0).l.flatMap (fun x : Tree => uvarS (x.s.length + 1) ++ x.s) := ⟨_,rfl⟩
  obtain ⟨X_1,hXX_1⟩ : ∃ X,X = [if decide ((t.at 1).n % 2 = 1) = true then (1 : UInt8) else 0] := ⟨_,rfl⟩
  obtain ⟨X_2,hXX_2⟩ : ∃ X,X = [if decide ((t.at 2).n % 2 = 1) = true then (1 : UInt8) else 0] := ⟨_,rfl⟩
  obtain ⟨XU,hXU⟩ : ∃ X,X = uvarS t.u.length := ⟨_,rfl⟩
  obtain ⟨XT,hXT⟩ : ∃ X,X = t.u.flatMap oneTag := ⟨_,rfl⟩
  have hP : partS (d + 1) fs_StreamsGroupDescribeRequest ver true t = ((XL_0 ++ XE_0) ++ (X_1 ++ (X_2 ++ []))) ++ (XU ++ XT) := by rw [hXU,hXT];exact partS_yes rfl hfu (plainL_has (by decide) hh_0 ((fieldS_list_t (g := (fun x : Tree => uvarS (x.s.length + 1) ++ x.s)) g_0 rfl (by decide) (fun x hx => valueS_text ((hgl_0.2 x hx).1 (.inl rfl)))).trans (by rw [hXL_0,hXE_0])) (plainL_has (by decide) hh_1 ((fieldS_bool rfl).trans hXX_1.symm) (plainL_has (by decide) hh_2 ((fieldS_bool rfl).trans hXX_2.symm) rfl)))
  rw [hP] at hlen
  simp only [List.length_append,List.length_nil] at hlen
  have hdK : ∀ {r : Value} {w' : World} {add : List UInt8},AppR 5 B w v s add r w' → ∀ b,b < w'.heap.size → OkS okM w.heap.size b → ¬ ownB r b := fun h b _ hk ho => (h.frame b ho).elim (hd b hk.2 hk.1) (fun h => by have := hk.2;omega)
  have ownK : ∀ {r : Value} {w' : World} {add : List UInt8} {b : Nat},AppR 5 B w v s add r w' → b < w.heap.size → ¬ ownB v b → ¬ ownB r b := fun h hb hn ho => (h.frame _ ho).elim hn (fun h => by omega)
  have ha0 : AppR 5 B w v s [] v w := AppR.refl ho
  obtain ⟨w0,hw0⟩ : ∃ w0,w0 = w := ⟨_,rfl⟩
  have hB0 := hB
  have hv_0 := hv
  refine fn_of_W Tryz.func259 rfl Tryz.results259 Tryz.ntmps259 rfl ?_
  repeat ((first | refine qA rfl ?_|refine qB ?_|refine qC rfl ?_|refine qD ?_|refine qE ?_|refine qF ?_|refine qG ?_|refine qH ?_);try simp (maxSteps:=1000000)(disch:=(first|omega|(simp only [qI,qJ,qK]<;>omega)|exact qL _)) only [go_sem,↓reduceIte,n0,reduceCtorEq,n1,n2,n3,n4,n5,i0,i1,i2,i3,i4,i5,i6,i7,hv_0])
  refine (AppendCompactArrayLen_fn _ _ _ ha0.own hB0 (t.at 0).l.length hll_0 (by simp only [List.length_append,List.length_nil];omega)).mono ?_
  rintro r1 w1 hc1
  rw [← hXL_0] at hc1
  have ha1 := ha0.trans hc1
  have hB1 : B ≤ w1.heap.size := Nat.le_trans hB ha1.upd.size
  have hv_1 := ha1.upd.blk_some hv hdv
  repeat ((first | refine qA rfl ?_|refine qB ?_|refine qC rfl ?_|refine qD ?_|refine qE ?_|refine qF ?_|refine qG ?_|refine qH ?_);try simp (maxSteps:=1000000)(disch:=(first|omega|(simp only [qI,qJ,qK]<;>omega)|exact qL _)) only [go_sem,↓reduceIte,n0,reduceCtorEq,n1,n2,n3,n4,n5,i0,i1,i2,i3,i4,i5,i6,i7,hv_1])
  have hadd1 := ha1
  refine W.exitJ 0 (fun ρ w' => ∃ r,ρ 1 = r ∧ ρ 0 = .pointer (some ⟨vb,0,none⟩) ∧ ρ 5 = .int .i16 ver ∧ ρ 6 = .bool true ∧ AppR 5 B w v s (([] ++ XL_0) ++ XE_0) r w')
    (W.loop (fun ρ w' => ∃ (j : Nat) (r : Value),j ≤ (t.at 0).l.length ∧ ρ 35 = .int .i64 j ∧ ρ 34 = .int .i64 (t.at 0).l.length ∧ ρ 7 = .slice ab_0 (t.at 0).l.length ac_0 ∧ ρ 1 = r ∧ ρ 0 = .pointer (some ⟨vb,0,none⟩) ∧ ρ 5 = .int .i16 ver ∧ ρ 6 = .bool true ∧ AppR 5 B w v s (([] ++ XL_0) ++ ((t.at 0).l.take j).flatMap (fun x : Tree => uvarS (x.s.length + 1) ++ x.s)) r w')
      (fun ρ _ => (t.at 0).l.length - (RowKit.intOf (ρ 35)).toNat) ?_ ?_) ?_
  · refine ⟨0,_,Nat.zero_le _,?_,?_,?_,?_,?_,?_,?_,ha1.eqs (by rw [List.take_zero,List.flatMap_nil,List.append_nil])⟩ <;> simp (maxSteps:=1000000)(disch:=(first|omega|(simp only [qI,qJ,qK]<;>omega)|exact qL _)) only [go_sem,↓reduceIte,n0,reduceCtorEq,n1,n2,n3,n4,n5,i0,i1,i2,i3,i4,i5,i6,i7]
    all_goals rfl
  · rintro ρ w2 ⟨j1,r2,hj1,hI1,hN1,hS1,hr1_1,hr1_0,hr1_5,hr1_6,ha2⟩
    have hB2 : B ≤ w2.heap.size := Nat.le_trans hB ha2.upd.size
    have hv_2 := ha2.upd.blk_some hv hdv
    by_cases hlt1 : j1 < (t.at 0).l.length
    · obtain ⟨_,b1,o1,x1,ce1,hb1,hok1,hx1,hbl1,hxs1,hxe1,hq1,hRe1⟩ := SlR.get (size := 1) (by decide) hs_0 hlt1
      subst hb1
      have hcat1 : (t.at 0).l.take (j1 + 1) = (t.at 0).l.take j1 ++ [(t.at 0).l[j1]] := List.take_succ_eq_append_getElem hlt1
      have htl1 := take_flatMap_len (t.at 0).l (fun x : Tree => uvarS (x.s.length + 1) ++ x.s) (j1 + 1)
      rw [← hXE_0,hcat1,List.flatMap_append,List.flatMap_cons,List.flatMap_nil,List.append_nil] at htl1
      have hge1 := hgl_0.2 _ (List.getElem_mem hlt1)
      generalize (t.at 0).l[j1] = y1 at *
      have hnx1 := hd b1 hbl1 hok1
      obtain ⟨T1,hTT1⟩ : ∃ T,T = ((t.at 0).l.take j1).flatMap (fun x : Tree => uvarS (x.s.length + 1) ++ x.s) := ⟨_,rfl⟩
      rw [← hTT1] at ha2 htl1
      have hx1_2 := ha2.upd.blk_some hx1 hnx1
      obtain rfl := Rep1_text.1 hRe1
      have hq1_0 : x1.1[o1 + j1]? = some (strV y1.s) := by have := hq1 0 (by decide);rw [Nat.mul_one] at this;exact this
      obtain ⟨Y1,hY1⟩ : ∃ Y,Y = uvarS ((y1).s.length + 1) ++ (y1).s := ⟨_,rfl⟩
      replace htl1 : (T1 ++ Y1).length ≤ XE_0.length := by rw [hY1];exact htl1
      simp only [List.length_append] at htl1
      repeat ((first | refine qA rfl ?_|refine qB ?_|refine qC rfl ?_|refine qD ?_|refine qE ?_|refine qF ?_|refine qG ?_|refine qH ?_);try simp (maxSteps:=1000000)(disch:=(first|omega|(simp only [qI,qJ,qK]<;>omega)|exact qL _)) only [go_sem,↓reduceIte,n0,reduceCtorEq,n1,n2,n3,n4,n5,i0,i1,i2,i3,i4,i5,i6,i7,hv_2,hx1_2,Int.toNat_natCast,Nat.mul_one,hq1_0,hr1_1,hr1_0,hr1_5,hr1_6,hI1,hN1,hS1])
      refine (AppendCompactString_fn _ _ _ ha2.own hB2 y1.s (hge1.1 (.inl rfl)) (by simp only [List.length_append,List.length_nil];omega)).mono ?_
      rintro r3 w3 hc3
      rw [← hY1] at hc3
      have ha3 := ha2.trans hc3
      have hB3 : B ≤ w3.heap.size := Nat.le_trans hB ha3.upd.size
      have hv_3 := ha3.upd.blk_some hv hdv
      have hx1_3 := ha3.upd.blk_some hx1 hnx1
      repeat ((first | refine qA rfl ?_|refine qB ?_|refine qC rfl ?_|refine qD ?_|refine qE ?_|refine qF ?_|refine qG ?_|refine qH ?_);try simp (maxSteps:=1000000)(disch:=(first|omega|(simp only [qI,qJ,qK]<;>omega)|exact qL _)) only [go_sem,↓reduceIte,n0,reduceCtorEq,n1,n2,n3,n4,n5,i0,i1,i2,i3,i4,i5,i6,i7,hr1_1,hr1_0,hr1_5,hr1_6,hI1,hN1,hS1])
      refine ⟨⟨j1 + 1,_,by omega,rfl,rfl,ha3.eqs ?_⟩,?_⟩
      · rw [hcat1,List.flatMap_append,List.flatMap_cons,List.flatMap_nil,List.append_nil,← hTT1,hY1];simp only [List.append_assoc,List.append_nil,List.nil_append]
      · simp only [RowKit.intOf];omega
    · have hjl1 : j1 = (t.at 0).l.length := by omega
      subst hjl1
      rw [List.take_length,← hXE_0] at ha2
      repeat ((first | refine qA rfl ?_|refine qB ?_|refine qC rfl ?_|refine qD ?_|refine qE ?_|refine qF ?_|refine qG ?_|refine qH ?_);try simp (maxSteps:=1000000)(disch:=(first|omega|(simp only [qI,qJ,qK]<;>omega)|exact qL _)) only [go_sem,↓reduceIte,n0,reduceCtorEq,n1,n2,n3,n4,n5,i0,i1,i2,i3,i4,i5,i6,i7,hI1,hN1])
      exact ⟨_,hr1_1,hr1_0,hr1_5,hr1_6,ha2⟩
  · rintro ρ w4 ⟨r4,hr1_2,hr2_0,hr2_5,hr2_6,ha4⟩
    have hB4 : B ≤ w4.heap.size := Nat.le_trans hB ha4.upd.size
    have hv_4 := ha4.upd.blk_some hv hdv
    repeat ((first | refine qA rfl ?_|refine qB ?_|refine qC rfl ?_|refine qD ?_|refine qE ?_|refine qF ?_|refine qG ?_|refine qH ?_);try simp (maxSteps:=1000000)(disch:=(first|omega|(simp only [qI,qJ,qK]<;>omega)|exact qL _)) only [go_sem,↓reduceIte,n0,reduceCtorEq,n1,n2,n3,n4,n5,i0,i1,i2,i3,i4,i5,i6,i7,hv_4,hr1_2,hr2_0,hr2_5,hr2_6])
    refine (AppendBool_fn _ _ _ ha4.own hB4 _ (by simp only [List.length_append,List.length_nil];omega)).mono ?_
    rintro r5 w5 hc5
    rw [← hXX_1] at hc5
    have ha5 := ha4.trans hc5
    have hB5 : B ≤ w5.heap.size := Nat.le_trans hB ha5.upd.size
    have hv_5 := ha5.upd.blk_some hv hdv
    repeat ((first | refine qA rfl ?_|refine qB ?_|refine qC rfl ?_|refine qD ?_|refine qE ?_|refine qF ?_|refine qG ?_|refine qH ?_);try simp (maxSteps:=1000000)(disch:=(first|omega|(simp only [qI,qJ,qK]<;>omega)|exact qL _)) only [go_sem,↓reduceIte,n0,reduceCtorEq,n1,n2,n3,n4,n5,i0,i1,i2,i3,i4,i5,i6,i7,hv_5,hr1_2,hr2_0,hr2_5,hr2_6])
    refine (AppendBool_fn _ _ _ ha5.own hB5 _ (by simp only [List.length_append,List.length_nil];omega)).mono ?_
    rintro r6 w6 hc6
    rw [← hXX_2] at hc6
    have ha6 := ha5.trans hc6
    have hB6 : B ≤ w6.heap.size := Nat.le_trans hB ha6.upd.size
    have hv_6 := ha6.upd.blk_some hv hdv
    repeat ((first | refine qA rfl ?_|refine qB ?_|refine qC rfl ?_|refine qD ?_|refine qE ?_|refine qF ?_|refine qG ?_|refine qH ?_);try simp (maxSteps:=1000000)(disch:=(first|omega|(simp only [qI,qJ,qK]<;>omega)|exact qL _)) only [go_sem,↓reduceIte,n0,reduceCtorEq,n1,n2,n3,n4,n5,i0,i1,i2,i3,i4,i5,i6,i7,hv_6,hr1_2,hr2_0,hr2_5,hr2_6])
    have hTk6 : TagsM (OkS okM w.heap.size) w6 (.map qm) t.u := (hT.weaken fun b h1 h2 => ⟨h2,h1⟩).keep (ha6.upd.keeps fun b hb hk => hd b hb hk.1)
    refine (TagsLen_fn (ok := OkS okM w.heap.size) w6 hv_6 (to := 4) (show (#[.int .i16 ver,.slice ab_0 (t.at 0).l.length ac_0,.bool (decide ((t.at 1).n % 2 = 1)),.bool (decide ((t.at 2).n % 2 = 1)),.map qm] : Array Value)[4]? = some (.map qm) from rfl) hTk6).mono ?_
    rintro _ w6' ⟨rfl,rfl⟩
    have hul6 : t.u.length ≤ 32767 := hfu.1
    have ew6 : IntKind.u32.wrap (t.u.length : Int) = t.u.length := u32_wrap (by omega)
    have ez6 : IntKind.u32.wrap (0 + (t.u.length : Int)) = t.u.length := by rw [Int.zero_add,u32_wrap (by omega)]
    simp (maxSteps:=1000000)(disch:=(first|omega|(simp only [qI,qJ,qK]<;>omega)|exact qL _)) only [go_sem,↓reduceIte,n0,reduceCtorEq,n1,n2,n3,n4,n5,i0,i1,i2,i3,i4,i5,i6,i7,hv_6,hr1_2,hr2_0,hr2_5,hr2_6,ew6,ez6]
    refine (AppendUvarint_fn _ _ _ ha6.own hB6 t.u.length (by omega) (by simp only [List.length_append,List.length_nil];omega)).mono ?_
    rintro r7 w7 hc7
    rw [← hXU] at hc7
    have ha7 := ha6.trans hc7
    have hB7 : B ≤ w7.heap.size := Nat.le_trans hB ha7.upd.size
    have hv_7 := ha7.upd.blk_some hv hdv
    repeat ((first | refine qA rfl ?_|refine qB ?_|refine qC rfl ?_|refine qD ?_|refine qE ?_|refine qF ?_|refine qG ?_|refine qH ?_);try simp (maxSteps:=1000000)(disch:=(first|omega|(simp only [qI,qJ,qK]<;>omega)|exact qL _)) only [go_sem,↓reduceIte,n0,reduceCtorEq,n1,n2,n3,n4,n5,i0,i1,i2,i3,i4,i5,i6,i7,hv_7,hr1_2,hr2_0,hr2_5,hr2_6])
    have hTk7 : TagsM (OkS okM w.heap.size) w7 (.map qm) t.u := (hT.weaken fun b h1 h2 => ⟨h2,h1⟩).keep (ha7.upd.keeps fun b hb hk => hd b hb hk.1)
    refine (AppendEach_fn (ok := OkS okM w.heap.size) _ _ _ ha7.own hB7 hv_7 (to := 4) (show (#[.int .i16 ver,.slice ab_0 (t.at 0).l.length ac_0,.bool (decide ((t.at 1).n % 2 = 1)),.bool (decide ((t.at 2).n % 2 = 1)),.map qm] : Array Value)[4]? = some (.map qm) from rfl) hTk7 (rising_keys hfu) hfu.1 (tags_small hfu hTk7) (hdK ha7) (ownK ha7 (blk_lt hv) hdv) (by simp only [List.length_append,List.length_nil];omega)).mono ?_
    rintro r8 w8 hc8
    rw [← hXT] at hc8
    have ha8 := ha7.trans hc8
    have hB8 : B ≤ w8.heap.size := Nat.le_trans hB ha8.upd.size
    have hv_8 := ha8.upd.blk_some hv hdv
    repeat ((first | refine qA rfl ?_|refine qB ?_|refine qC rfl ?_|refine qD ?_|refine qE ?_|refine qF ?_|refine qG ?_|refine qH ?_);try simp (maxSteps:=1000000)(disch:=(first|omega|(simp only [qI,qJ,qK]<;>omega)|exact qL _)) only [go_sem,↓reduceIte,n0,reduceCtorEq,n1,n2,n3,n4,n5,i0,i1,i2,i3,i4,i5,i6,i7,hv_8,hr1_2,hr2_0,hr2_5,hr2_6])
    refine ha8.eqs ?_
    rw [hP];simp only [List.append_assoc,List.append_nil,List.nil_append]
end Ms

namespace Ms
open Go.World renaming size_alloc → qI
open Ms renaming size_wr → qJ,size_drew → qK,not_noB → qL
open W renaming seqR → qA,seq → qB,regR → qC,condK → qD,block → qE,skip → qF,ret → qG,exit → qH
open Nat renaming reduceEqDiff → n0,reduceAdd → n1,reduceMul → n2,reduceSub → n3,reduceLT → n4,reduceLeDiff → n5
open Int renaming reduceEq → i0,reduceLT → i1,reduceLE → i2,reduceNeg → i3,reduceAdd → i4,reduceSub → i5,reduceMul → i6,reduceToNat → i7
set_option maxRecDepth 8000
open Go Go.Proofs Go.Shelf
attribute [local congr] W_congr WPsq_congr WPp_congr optK_congr addrK_congr intK_congr boolK_congr sliceK_congr tupleK_congr funcK_congr Fn_congr rawK_congr takeK_congr stepK_congr convK_congr aggK_congr

theorem KeyStreamsGroupDescribeRequest_fn (w : World) (vb : Nat) : Fn Tryz.prog 262 #[.pointer (some ⟨vb,0,none⟩)] w fun r w' => r = .int .i16 89 ∧ w' = w := by
  refine fn_of_W Tryz.func262 rfl Tryz.results262 Tryz.ntmps262 rfl ?_
  repeat ((first | refine qA rfl ?_|refine qB ?_|refine qC rfl ?_|refine qD ?_|refine qE ?_|refine qF ?_|refine qG ?_|refine qH ?_);try simp (maxSteps:=1000000)(disch:=(first|omega|(simp only [qI,qJ,qK]<;>omega)|exact qL _)) only [go_sem,↓reduceIte,n0,reduceCtorEq,n1,n2,n3,n4,n5,i0,i1,i2,i3,i4,i5,i6,i7])
  all_goals first | rfl | exact ⟨rfl,rfl⟩
theorem GetVStreamsGroupDescribeRequest_fn (w : World) {vb : Nat} {ver : Int} {cells : List Value} (hb : blk w vb = some ((.int .i16 ver :: cells).toArray,117,(0,0))) : Fn Tryz.prog 260 #[.pointer (some ⟨vb,0,none⟩)] w fun r w' => r = .int .i16 ver ∧ w' = w := by
  refine fn_of_W Tryz.func260 rfl Tryz.results260 Tryz.ntmps260 rfl ?_
  repeat ((first | refine qA rfl ?_|refine qB ?_|refine qC rfl ?_|refine qD ?_|refine qE ?_|refine qF ?_|refine qG ?_|refine qH ?_);try simp (maxSteps:=1000000)(disch:=(first|omega|(simp only [qI,qJ,qK]<;>omega)|exact qL _)) only [go_sem,↓reduceIte,n0,reduceCtorEq,n1,n2,n3,n4,n5,i0,i1,i2,i3,i4,i5,i6,i7,hb])
  all_goals first | rfl | exact ⟨rfl,rfl⟩
theorem IsFlexStreamsGroupDescribeRequest_fn (w : World) {vb : Nat} {ver : Int} {cells : List Value} (hlo : 0 ≤ ver) (hhi : ver ≤ 1) (hb : blk w vb = some ((.int .i16 ver :: cells).toArray,117,(0,0))) : Fn Tryz.prog 261 #[.pointer (some ⟨vb,0,none⟩)] w fun r w' => r = .bool (flexB 0 ver) ∧ w' = w := by
  refine fn_of_W Tryz.func261 rfl Tryz.results261 Tryz.ntmps261 rfl ?_
  by_cases hv : 0 ≤ ver
  · repeat ((first | refine qA rfl ?_|refine qB ?_|refine qC rfl ?_|refine qD ?_|refine qE ?_|refine qF ?_|refine qG ?_|refine qH ?_);try simp (maxSteps:=1000000)(disch:=(first|omega|(simp only [qI,qJ,qK]<;>omega)|exact qL _)) only [go_sem,↓reduceIte,n0,reduceCtorEq,n1,n2,n3,n4,n5,i0,i1,i2,i3,i4,i5,i6,i7,hb])
    all_goals simp [flexB] <;> omega
  · repeat ((first | refine qA rfl ?_|refine qB ?_|refine qC rfl ?_|refine qD ?_|refine qE ?_|refine qF ?_|refine qG ?_|refine qH ?_);try simp (maxSteps:=1000000)(disch:=(first|omega|(simp only [qI,qJ,qK]<;>omega)|exact qL _)) only [go_sem,↓reduceIte,n0,reduceCtorEq,n1,n2,n3,n4,n5,i0,i1,i2,i3,i4,i5,i6,i7,hb])
    all_goals simp [flexB] <;> omega
theorem mKeyStreamsGroupDescribeRequest : methodP Tryz.prog 69 "Key" = some (262,true) := by kernel_rfl
theorem kKeyStreamsGroupDescribeRequest : callable Tryz.prog 262 = true := by kernel_rfl
theorem mGetVStreamsGroupDescribeRequest : methodP Tryz.prog 69 "GetVersion" = some (260,true) := by kernel_rfl
theorem kGetVStreamsGroupDescribeRequest : callable Tryz.prog 260 = true := by kernel_rfl
theorem mIsFlexStreamsGroupDescribeRequest : methodP Tryz.prog 69 "IsFlexible" = some (261,true) := by kernel_rfl
theorem kIsFlexStreamsGroupDescribeRequest : callable Tryz.prog 261 = true := by kernel_rfl
theorem mAppStreamsGroupDescribeRequest : methodP Tryz.prog 69 "AppendTo" = some (259,true) := by kernel_rfl
theorem kAppStreamsGroupDescribeRequest : callable Tryz.prog 259 = true := by kernel_rfl
theorem recvStreamsGroupDescribeRequest : recvOk Tryz.prog 69 true = true := by kernel_rfl

set_option maxHeartbeats 2000000 in
theorem reqStreamsGroupDescribeRequest {d : Nat} {ver : Int} {vb B : Nat} {cells : List Value} {t : Tree} (hlo : 0 ≤ ver) (hhi : ver ≤ 1) (hvb : vb < B) (hcn : partS (d + 1) fs_StreamsGroupDescribeRequest ver (flexB 0 ver) (cnP (d + 1) ver (flexB 0 ver) fs_StreamsGroupDescribeRequest t) = (partS (d + 1) fs_StreamsGroupDescribeRequest ver (flexB 0 ver) t) ∧ FitW ver (d + 1) fs_StreamsGroupDescribeRequest (cnP (d + 1) ver (flexB 0 ver) fs_StreamsGroupDescribeRequest t)) (hl : (partS (d + 1) fs_StreamsGroupDescribeRequest ver (flexB 0 ver) t).length ≤ 2 ^ 40) :
    ReqOk Tryz.prog 5 69 (.pointer (some ⟨vb,0,none⟩)) B 89 ver (flexB 0 ver) (partS (d + 1) fs_StreamsGroupDescribeRequest ver (flexB 0 ver) t) (fun w => (blk w vb = some ((.int .i16 ver :: cells).toArray,117,(0,0))) ∧ RepS true (d + 1) fs_StreamsGroupDescribeRequest (fun b => b < B) w (cnP (d + 1) ver (flexB 0 ver) fs_StreamsGroupDescribeRequest t) cells) := by
  refine ⟨fun w w' h hu => ⟨hu.blk_some h.1 (by omega),?_⟩,recvStreamsGroupDescribeRequest,⟨_,mKeyStreamsGroupDescribeRequest,kKeyStreamsGroupDescribeRequest,fun w _ => KeyStreamsGroupDescribeRequest_fn w vb⟩,⟨_,mGetVStreamsGroupDescribeRequest,kGetVStreamsGroupDescribeRequest,fun w h => GetVStreamsGroupDescribeRequest_fn w h.1⟩,⟨_,mIsFlexStreamsGroupDescribeRequest,kIsFlexStreamsGroupDescribeRequest,fun w h => IsFlexStreamsGroupDescribeRequest_fn w hlo hhi h.1⟩,⟨_,mAppStreamsGroupDescribeRequest,kAppStreamsGroupDescribeRequest,fun w v s B' h hB hB' ho hs => ?_⟩⟩
  · exact (RepS_lay true (d + 1) fs_StreamsGroupDescribeRequest).keep h.2 (hu.keeps fun b _ hk hb => by omega)
  have hcl : (0 ≤ ver ∧ ver ≤ 0) ∨ (1 ≤ ver ∧ ver ≤ 1) := by omega
  rcases hcl with ⟨h1,h2⟩ | ⟨h1,h2⟩
  · have hfl : flexB 0 ver = true := by simp only [flexB,Bool.and_eq_true,decide_eq_true_eq];omega
    rw [hfl] at hcn h hl ⊢
    refine (appStreamsGroupDescribeRequest_0 (d := d) (B := B') h1 h2 _ cells v s w ho hB' h.1 h.2 hcn.2 (fun b hb h1 h2 => by have := Own.above ho h2;omega) (fun h => by have := Own.above ho h;omega) (by rw [hcn.1];omega)).mono ?_
    intro r w' h6
    rw [hcn.1] at h6
    exact h6
  · have hfl : flexB 0 ver = true := by simp only [flexB,Bool.and_eq_true,decide_eq_true_eq];omega
    rw [hfl] at hcn h hl ⊢
    refine (appStreamsGroupDescribeRequest_1 (d := d) (B := B') h1 h2 _ cells v s w ho hB' h.1 h.2 hcn.2 (fun b hb h1 h2 => by have := Own.above ho h2;omega) (fun h => by have := Own.above ho h;omega) (by rw [hcn.1];omega)).mono ?_
    intro r w' h6
    rw [hcn.1] at h6
    exact h6

set_option maxHeartbeats 2000000 in
theorem FrameStreamsGroupDescribeRequest_fn {d : Nat} {ok : Blocks} {ev : Value} (ver : Nat) (hv : ver ≤ 1) (t : Tree) (has : Bool) (id : List UInt8) (number : Int) (b : Value) (w : World) (hb : BytesV ok w b (partS (d + 1) fs_StreamsGroupDescribeRequest ver (flexB 0 ver) t)) (hG : Glo ev w) (hrd : rdP (d + 1) ver (flexB 0 ver) fs_StreamsGroupDescribeRequest (some (partS (d + 1) fs_StreamsGroupDescribeRequest ver (flexB 0 ver) t)) = (cnP (d + 1) ver (flexB 0 ver) fs_StreamsGroupDescribeRequest t,some []))
    (hcn : partS (d + 1) fs_StreamsGroupDescribeRequest ver (flexB 0 ver) (cnP (d + 1) ver (flexB 0 ver) fs_StreamsGroupDescribeRequest t) = (partS (d + 1) fs_StreamsGroupDescribeRequest ver (flexB 0 ver) t) ∧ FitW ver (d + 1) fs_StreamsGroupDescribeRequest (cnP (d + 1) ver (flexB 0 ver) fs_StreamsGroupDescribeRequest t)) (hl : (partS (d + 1) fs_StreamsGroupDescribeRequest ver (flexB 0 ver) t).length ≤ 2 ^ 40) (hid : id.length ≤ 32767) (hkv : ¬ ((89 : Int) = 7 ∧ (ver : Int) = 0)) :
    Fn Tryz.prog 39 #[.agg #[.bool has,strV id],.int .i32 number,.int .i64 ver,b] w fun r w' => (∃ v,r = .tuple #[v,.bool true] ∧ OwnBy 5 w.heap.size w' v (frameS 89 ver number (!has) id (flexB 0 ver) (partS (d + 1) fs_StreamsGroupDescribeRequest ver (flexB 0 ver) t))) ∧ Ext w w' := by
  obtain ⟨ba,bc,rfl,_⟩ := hb.shape
  have hgl := hG.lt
  have ew : IntKind.i16.wrap (ver : Int) = ver := i16_wrap (by omega)
  have hE0 : Ext w (w.alloc (.cells #[.bool has,strV id] 23)) := Upd.alloc (Upd.refl _ _) _
  have hz0 : (w.alloc (.cells #[.bool has,strV id] 23)).heap.size = w.heap.size + 1 := World.size_alloc _ _
  have hi0 : blk (w.alloc (.cells #[.bool has,strV id] 23)) w.heap.size = some (#[.bool has,strV id],23,(0,0)) := blk_alloc_new rfl
  refine fn_of_W Tryz.func39 rfl Tryz.results39 Tryz.ntmps39 rfl ?_
  repeat ((first | refine qA rfl ?_|refine qB ?_|refine qC rfl ?_|refine qD ?_|refine qE ?_|refine qF ?_|refine qG ?_|refine qH ?_);try simp (maxSteps:=1000000)(disch:=(first|omega|(simp only [qI,qJ,qK]<;>omega)|exact qL _)) only [go_sem,↓reduceIte,n0,reduceCtorEq,n1,n2,n3,n4,n5,i0,i1,i2,i3,i4,i5,i6,i7,ew,cells_strV,flat_strV])
  generalize (w.alloc (.cells #[.bool has,strV id] 23)) = w0 at *
  refine (NewPtrStreamsGroupDescribeRequest_fn w0).mono ?_
  rintro _ w1 ⟨rfl,hb1,hE1⟩
  have hz1 := blk_lt hb1
  repeat ((first | refine qA rfl ?_|refine qB ?_|refine qC rfl ?_|refine qD ?_|refine qE ?_|refine qF ?_|refine qG ?_|refine qH ?_);try simp (maxSteps:=1000000)(disch:=(first|omega|(simp only [qI,qJ,qK]<;>omega)|exact qL _)) only [go_sem,↓reduceIte,n0,reduceCtorEq,n1,n2,n3,n4,n5,i0,i1,i2,i3,i4,i5,i6,i7,ew])
  refine (SetVersionStreamsGroupDescribeRequest_fn w1 (vb := w0.heap.size) ver hb1).mono ?_
  rintro _ w2 ⟨hb2,hU2⟩
  have hz2 := hU2.size
  have hE2 : Ext w0 w2 := hE1.more hU2 fun b hb h => by omega
  repeat ((first | refine qA rfl ?_|refine qB ?_|refine qC rfl ?_|refine qD ?_|refine qE ?_|refine qF ?_|refine qG ?_|refine qH ?_);try simp (maxSteps:=1000000)(disch:=(first|omega|(simp only [qI,qJ,qK]<;>omega)|exact qL _)) only [go_sem,↓reduceIte,n0,reduceCtorEq,n1,n2,n3,n4,n5,i0,i1,i2,i3,i4,i5,i6,i7,ew])
  refine wp_copyN ap_24_24 (ok := ok) (s := (partS (d + 1) fs_StreamsGroupDescribeRequest ver (flexB 0 ver) t)) (v := .slice ba _ bc) (by first | rfl | simp (maxSteps:=1000000)(disch:=(first|omega|(simp only [qI,qJ,qK]<;>omega)|exact qL _)) only [go_sem,↓reduceIte,n0,reduceCtorEq,n1,n2,n3,n4,n5,i0,i1,i2,i3,i4,i5,i6,i7]) (by first | rfl | simp (maxSteps:=1000000)(disch:=(first|omega|(simp only [qI,qJ,qK]<;>omega)|exact qL _)) only [go_sem,↓reduceIte,n0,reduceCtorEq,n1,n2,n3,n4,n5,i0,i1,i2,i3,i4,i5,i6,i7]) (hb.keep (Ext.keeps (hE0.trans hE2) _)) (by omega) ?_
  intro v3 w3 ho3 hE3 hf3
  have hz3 := hE3.size
  have hb3 := hE3.blk_some hb2 _root_.id
  have hG3 : Glo ev w3 := hG.updS ((hE0.trans hE2).trans hE3) _root_.id _root_.id
  obtain ⟨a3,c3,rfl,_⟩ := ho3.shape
  try simp (maxSteps:=1000000)(disch:=(first|omega|(simp only [qI,qJ,qK]<;>omega)|exact qL _)) only [go_sem,↓reduceIte,n0,reduceCtorEq,n1,n2,n3,n4,n5,i0,i1,i2,i3,i4,i5,i6,i7]
  refine (ReadFromStreamsGroupDescribeRequest_fn (d := d) (ok := fun b => b < w3.heap.size ∧ b ≠ w0.heap.size) (ev := ev) (ver := ver) (by omega) (by omega) w3 _ _ hb3 ((Own.bytes ho3 hf3).weaken fun b hb hk => ⟨hb,by omega⟩) (fun b hb => hb) hG3 ⟨by omega,by omega⟩).mono ?_
  rintro r4 w4 ⟨_,h4,hU4⟩
  rw [hrd] at h4
  obtain ⟨rfl,cells,hb4,hR4⟩ := h4 (by simp)
  have hz4 := hU4.size
  have hE4 : Ext w0 w4 := (hE2.trans hE3).more hU4 fun b hb h => by omega
  have hE04 := hE0.trans hE4
  have hi4 := hE4.blk_some hi0 _root_.id
  have hR4' : RepS true (d + 1) fs_StreamsGroupDescribeRequest (fun b => b < w4.heap.size) w4 (cnP (d + 1) ver (flexB 0 ver) fs_StreamsGroupDescribeRequest t) cells := (RepS_lay true (d + 1) fs_StreamsGroupDescribeRequest).weaken hR4 fun b hb _ => hb
  try simp (maxSteps:=1000000)(disch:=(first|omega|(simp only [qI,qJ,qK]<;>omega)|exact qL _)) only [go_sem,↓reduceIte,n0,reduceCtorEq,n1,n2,n3,n4,n5,i0,i1,i2,i3,i4,i5,i6,i7]
  repeat ((first | refine qA rfl ?_|refine qB ?_|refine qC rfl ?_|refine qD ?_|refine qE ?_|refine qF ?_|refine qG ?_|refine qH ?_);try simp (maxSteps:=1000000)(disch:=(first|omega|(simp only [qI,qJ,qK]<;>omega)|exact qL _)) only [go_sem,↓reduceIte,n0,reduceCtorEq,n1,n2,n3,n4,n5,i0,i1,i2,i3,i4,i5,i6,i7,hi4,cellsAt_two])
  refine (framed_fn (reqStreamsGroupDescribeRequest (d := d) (B := w4.heap.size) (vb := w0.heap.size) (cells := cells) (t := t) (by omega) (by omega) (by omega) hcn hl) rfl w4 ⟨hb4,hR4'⟩ (Nat.le_refl _) has id hid hl number hkv).mono ?_
  rintro r5 w5 ⟨ho5,hE5⟩
  obtain ⟨a5,c5,rfl,_⟩ := ho5.shape
  try simp (maxSteps:=1000000)(disch:=(first|omega|(simp only [qI,qJ,qK]<;>omega)|exact qL _)) only [go_sem,↓reduceIte,n0,reduceCtorEq,n1,n2,n3,n4,n5,i0,i1,i2,i3,i4,i5,i6,i7]
  repeat ((first | refine qA rfl ?_|refine qB ?_|refine qC rfl ?_|refine qD ?_|refine qE ?_|refine qF ?_|refine qG ?_|refine qH ?_);try simp (maxSteps:=1000000)(disch:=(first|omega|(simp only [qI,qJ,qK]<;>omega)|exact qL _)) only [go_sem,↓reduceIte,n0,reduceCtorEq,n1,n2,n3,n4,n5,i0,i1,i2,i3,i4,i5,i6,i7])
  exact ⟨⟨_,rfl,Own.mono ho5 hE04.size⟩,hE04.trans hE5⟩

end Ms

namespace Ms
open Go.World renaming size_alloc → qI
open Ms renaming size_wr → qJ,size_drew → qK,not_noB → qL
open W renaming seqR → qA,seq → qB,regR → qC,condK → qD,block → qE,skip → qF,ret → qG,exit → qH
open Nat renaming reduceEqDiff → n0,reduceAdd → n1,reduceMul → n2,reduceSub → n3,reduceLT → n4,reduceLeDiff → n5
open Int renaming reduceEq → i0,reduceLT → i1,reduceLE → i2,reduceNeg → i3,reduceAdd → i4,reduceSub → i5,reduceMul → i6,reduceToNat → i7
set_option maxRecDepth 8000
open Go Go.Proofs Go.Shelf
attribute [local congr] W_congr WPsq_congr WPp_congr optK_congr addrK_congr intK_congr boolK_congr sliceK_congr tupleK_congr funcK_congr Fn_congr rawK_congr takeK_congr stepK_congr convK_congr aggK_congr

set_option maxHeartbeats 4000000 in
theorem law_FrameStreamsGroupDescribeRequest {ok : Blocks} {ev : Value} (n : Nat) (hn : n < 256) (has : Bool) (id : List UInt8) (number : Int) (hnum : -2147483648 ≤ number ∧ number < 2147483648) (t : Tree) (ct : List Value) (w : World) (ht : TreeC ok w t ct) (hsm : Small 4611686018427387903 t) (hG : Glo ev w) {N : Nat} (hN : N ≤ 1048576) (hsz : Sized N t) :
    Fn Tryz.prog 9 #[.int .u8 n,.agg #[.bool has,strV id],.int .i32 number,.agg ct.toArray] w fun r w' => r = .bool true ∧ Ext w w' := by
  obtain ⟨vS,vL,vU,rfl,hn',hS,hL,hU⟩ := ht.inv
  have f1 := hS.flat
  have f2 := SlR.flat hL
  have f3 := SlR.flat hU
  have hE : Ext w ((w.alloc (.cells #[.bool has,strV id] 23)).alloc (.cells #[.int .i64 t.n,vS,.bool t.null,vL,vU] 28)) := Upd.alloc (Upd.alloc (Upd.refl _ _) _) _
  refine fn_of_W Tryz.func9 rfl Tryz.results9 Tryz.ntmps9 rfl ?_
  repeat ((first | refine qA rfl ?_|refine qB ?_|refine qC rfl ?_|refine qD ?_|refine qE ?_|refine qF ?_|refine qG ?_|refine qH ?_);try simp (maxSteps:=1000000)(disch:=(first|omega|(simp only [qI,qJ,qK]<;>omega)|exact qL _)) only [go_sem,↓reduceIte,n0,reduceCtorEq,n1,n2,n3,n4,n5,i0,i1,i2,i3,i4,i5,i6,i7,f1,f2,f3,cellsAt_five,cellsAt_two,cells_strV,flat_strV])
  have hi1 : blk ((w.alloc (.cells #[.bool has,strV id] 23)).alloc (.cells #[.int .i64 t.n,vS,.bool t.null,vL,vU] 28)) w.heap.size = some (#[.bool has,strV id],23,(0,0)) := by simp (maxSteps:=1000000)(disch:=(first|omega|(simp only [qI,qJ,qK]<;>omega)|exact qL _)) only [go_sem,↓reduceIte,n0,reduceCtorEq,n1,n2,n3,n4,n5,i0,i1,i2,i3,i4,i5,i6,i7]
  have hb : blk ((w.alloc (.cells #[.bool has,strV id] 23)).alloc (.cells #[.int .i64 t.n,vS,.bool t.null,vL,vU] 28)) (w.heap.size + 1) = some (#[.int .i64 t.n,vS,.bool t.null,vL,vU],28,(0,0)) := by simp (maxSteps:=1000000)(disch:=(first|omega|(simp only [qI,qJ,qK]<;>omega)|exact qL _)) only [go_sem,↓reduceIte,n0,reduceCtorEq,n1,n2,n3,n4,n5,i0,i1,i2,i3,i4,i5,i6,i7]
  generalize ((w.alloc (.cells #[.bool has,strV id] 23)).alloc (.cells #[.int .i64 t.n,vS,.bool t.null,vL,vU] 28)) = w1 at *
  refine (zzFits4_fn has id w1).mono ?_
  rintro r2 w2 ⟨⟨b4,rfl⟩,hE2⟩
  have hE02 := hE.trans hE2
  have hi2 := hE2.blk_some hi1 _root_.id
  have hb2 := hE2.blk_some hb _root_.id
  cases b4 with
  | false =>
    try simp (maxSteps:=1000000)(disch:=(first|omega|(simp only [qI,qJ,qK]<;>omega)|exact qL _)) only [go_sem,↓reduceIte,n0,reduceCtorEq,n1,n2,n3,n4,n5,i0,i1,i2,i3,i4,i5,i6,i7]
    repeat ((first | refine qA rfl ?_|refine qB ?_|refine qC rfl ?_|refine qD ?_|refine qE ?_|refine qF ?_|refine qG ?_|refine qH ?_);try simp (maxSteps:=1000000)(disch:=(first|omega|(simp only [qI,qJ,qK]<;>omega)|exact qL _)) only [go_sem,↓reduceIte,n0,reduceCtorEq,n1,n2,n3,n4,n5,i0,i1,i2,i3,i4,i5,i6,i7])
    all_goals exact hE02
  | true =>
    try simp (maxSteps:=1000000)(disch:=(first|omega|(simp only [qI,qJ,qK]<;>omega)|exact qL _)) only [go_sem,↓reduceIte,n0,reduceCtorEq,n1,n2,n3,n4,n5,i0,i1,i2,i3,i4,i5,i6,i7,hb2,cellsAt_five]
    refine (zzFits1_fn (ok := ok) t _ w2 (ht.keep (Ext.keeps hE02 _)) hsm).mono ?_
    rintro r3 w3 ⟨⟨bb,rfl⟩,hE3⟩
    have hE03 := hE02.trans hE3
    have hi3 := hE3.blk_some hi2 _root_.id
    have hb3 := hE3.blk_some hb2 _root_.id
    cases bb with
    | false =>
      try simp (maxSteps:=1000000)(disch:=(first|omega|(simp only [qI,qJ,qK]<;>omega)|exact qL _)) only [go_sem,↓reduceIte,n0,reduceCtorEq,n1,n2,n3,n4,n5,i0,i1,i2,i3,i4,i5,i6,i7]
      repeat ((first | refine qA rfl ?_|refine qB ?_|refine qC rfl ?_|refine qD ?_|refine qE ?_|refine qF ?_|refine qG ?_|refine qH ?_);try simp (maxSteps:=1000000)(disch:=(first|omega|(simp only [qI,qJ,qK]<;>omega)|exact qL _)) only [go_sem,↓reduceIte,n0,reduceCtorEq,n1,n2,n3,n4,n5,i0,i1,i2,i3,i4,i5,i6,i7])
      all_goals exact hE03
    | true =>
      try simp (maxSteps:=1000000)(disch:=(first|omega|(simp only [qI,qJ,qK]<;>omega)|exact qL _)) only [go_sem,↓reduceIte,n0,reduceCtorEq,n1,n2,n3,n4,n5,i0,i1,i2,i3,i4,i5,i6,i7]
      repeat ((first | refine qA rfl ?_|refine qB ?_|refine qC rfl ?_|refine qD ?_|refine qE ?_|refine qF ?_|refine qG ?_|refine qH ?_);try simp (maxSteps:=1000000)(disch:=(first|omega|(simp only [qI,qJ,qK]<;>omega)|exact qL _)) only [go_sem,↓reduceIte,n0,reduceCtorEq,n1,n2,n3,n4,n5,i0,i1,i2,i3,i4,i5,i6,i7])
      refine (MaxStreamsGroupDescribeRequest_fn w3).mono ?_
      rintro _ w3m ⟨rfl,hE3m⟩
      repeat ((first | refine qA rfl ?_|refine qB ?_|refine qC rfl ?_|refine qD ?_|refine qE ?_|refine qF ?_|refine qG ?_|refine qH ?_);try simp (maxSteps:=1000000)(disch:=(first|omega|(simp only [qI,qJ,qK]<;>omega)|exact qL _)) only [go_sem,↓reduceIte,n0,reduceCtorEq,n1,n2,n3,n4,n5,i0,i1,i2,i3,i4,i5,i6,i7])
      refine (cStreamsGroupDescribeRequest_fn w3m).mono ?_
      rintro r4 w4 ⟨⟨vs,rfl,hF0⟩,hE4⟩
      have hF : FldsV AnyB w4 vs fs_StreamsGroupDescribeRequest := hF0.weaken fun _ _ _ => trivial
      have fF := SlR.flat hF
      try simp (maxSteps:=1000000)(disch:=(first|omega|(simp only [qI,qJ,qK]<;>omega)|exact qL _)) only [go_sem,↓reduceIte,n0,reduceCtorEq,n1,n2,n3,n4,n5,i0,i1,i2,i3,i4,i5,i6,i7]
      refine (version_fn w4 n 1 hn (by decide)).mono ?_
      rintro _ w4v ⟨rfl,rfl⟩
      have hE04 : Ext w w4v := (hE03.trans hE3m).trans hE4
      have hi4 := hE4.blk_some (hE3m.blk_some hi3 _root_.id) _root_.id
      have hb4 := hE4.blk_some (hE3m.blk_some hb3 _root_.id) _root_.id
      have hE5 : Ext w4v (wr (w4v.alloc (.cells #[.slice none 0 0,.int .i64 0] 34)) w4v.heap.size 0 [vs,.int .i64 0]) := (Upd.alloc (Upd.refl _ _) _).wr _ _ (.inl (Nat.le_refl _))
      have hm5 : blk (wr (w4v.alloc (.cells #[.slice none 0 0,.int .i64 0] 34)) w4v.heap.size 0 [vs,.int .i64 0]) w4v.heap.size = some (#[vs,.int .i64 0],34,(0,0)) := by simp (maxSteps:=1000000)(disch:=(first|omega|(simp only [qI,qJ,qK]<;>omega)|exact qL _)) only [go_sem,↓reduceIte,n0,reduceCtorEq,n1,n2,n3,n4,n5,i0,i1,i2,i3,i4,i5,i6,i7]
      try simp (maxSteps:=1000000)(disch:=(first|omega|(simp only [qI,qJ,qK]<;>omega)|exact qL _)) only [go_sem,↓reduceIte,n0,reduceCtorEq,n1,n2,n3,n4,n5,i0,i1,i2,i3,i4,i5,i6,i7,fF]
      generalize (wr (w4v.alloc (.cells #[.slice none 0 0,.int .i64 0] 34)) w4v.heap.size 0 [vs,.int .i64 0]) = w5 at *
      have hi5 := hE5.blk_some hi4 _root_.id
      have hb5 := hE5.blk_some hb4 _root_.id
      have hv3 : n % 2 < 2 := Nat.mod_lt _ (by omega)
      generalize n % 2 = ver at *
      have hE05 : Ext w w5 := hE04.trans hE5
      skip
      by_cases hidb : (32767 : Int) < (id.length : Int)
      · repeat ((first | refine qA rfl ?_|refine qB ?_|refine qC rfl ?_|refine qD ?_|refine qE ?_|refine qF ?_|refine qG ?_|refine qH ?_);try simp (maxSteps:=1000000)(disch:=(first|omega|(simp only [qI,qJ,qK]<;>omega)|exact qL _)) only [go_sem,↓reduceIte,n0,reduceCtorEq,n1,n2,n3,n4,n5,i0,i1,i2,i3,i4,i5,i6,i7,hi5,lenV_strV,hidb])
        all_goals exact hE05
      repeat ((first | refine qA rfl ?_|refine qB ?_|refine qC rfl ?_|refine qD ?_|refine qE ?_|refine qF ?_|refine qG ?_|refine qH ?_);try simp (maxSteps:=1000000)(disch:=(first|omega|(simp only [qI,qJ,qK]<;>omega)|exact qL _)) only [go_sem,↓reduceIte,n0,reduceCtorEq,n1,n2,n3,n4,n5,i0,i1,i2,i3,i4,i5,i6,i7,hi5,lenV_strV,hidb,hb5,hm5,cellsAt_five,cellsAt_two])
      have hokF : okF 1 fs_StreamsGroupDescribeRequest = true := by decide
      have hokM : okM 1 fs_StreamsGroupDescribeRequest = true := by decide
      have hokR : okR 1 ver (flexB 0 ver) fs_StreamsGroupDescribeRequest = true := (by decide : ∀ v : Fin 2,okR 1 ((v.val : Nat) : Int) (flexB 0 ((v.val : Nat) : Int)) fs_StreamsGroupDescribeRequest = true) ⟨ver,hv3⟩
      have hpl : (partS 2 fs_StreamsGroupDescribeRequest ver (flexB 0 ver) t).length ≤ 2 ^ 40 := Nat.le_trans (partS_bound ver _ 1 fs_StreamsGroupDescribeRequest N t hokM hsz) (Nat.le_trans (Nat.mul_le_mul_left _ (Nat.succ_le_succ hN)) (by decide))
      refine (Write_fn (ok := AnyB) (d := 1) fs_StreamsGroupDescribeRequest 0 ver t vs _ w5 (hF.keep (Ext.keeps hE5 _)) hokF ((ht.weaken fun _ _ _ => trivial).keep (Ext.keeps hE05 _)) hsm hpl).mono ?_
      rintro r6 w6 ⟨ho6,hE6⟩
      have hE06 := hE05.trans hE6
      have hi6 := hE6.blk_some hi5 _root_.id
      obtain ⟨a6,c6,rfl,_⟩ := ho6.shape
      repeat ((first | refine qA rfl ?_|refine qB ?_|refine qC rfl ?_|refine qD ?_|refine qE ?_|refine qF ?_|refine qG ?_|refine qH ?_);try simp (maxSteps:=1000000)(disch:=(first|omega|(simp only [qI,qJ,qK]<;>omega)|exact qL _)) only [go_sem,↓reduceIte,n0,reduceCtorEq,n1,n2,n3,n4,n5,i0,i1,i2,i3,i4,i5,i6,i7,hi6,cellsAt_two])
      have hrd := (rdP_part ver (flexB 0 ver) 1 fs_StreamsGroupDescribeRequest N t hokR hsz).1 []
      rw [List.append_nil] at hrd
      refine (FrameStreamsGroupDescribeRequest_fn (d := 1) (ok := AnyB) (ev := ev) ver (by omega) t has id number _ w6 (Own.bytes (ok := AnyB) ho6 fun _ _ => trivial) (hG.updS hE06 _root_.id _root_.id) hrd (partS_cn ver (flexB 0 ver) 1 fs_StreamsGroupDescribeRequest t hokR) hpl (by omega) (by omega)).mono ?_
      rintro _ w7 ⟨⟨v7,rfl,ho7⟩,hE7⟩
      have hE07 := hE06.trans hE7
      obtain ⟨a7,c7,rfl,_⟩ := ho7.shape
      have hi7 := hE7.blk_some hi6 _root_.id
      have hm7 := (hE6.trans hE7).blk_some hm5 _root_.id
      try simp (maxSteps:=1000000)(disch:=(first|omega|(simp only [qI,qJ,qK]<;>omega)|exact qL _)) only [go_sem,↓reduceIte,n0,reduceCtorEq,n1,n2,n3,n4,n5,i0,i1,i2,i3,i4,i5,i6,i7]
      repeat ((first | refine qA rfl ?_|refine qB ?_|refine qC rfl ?_|refine qD ?_|refine qE ?_|refine qF ?_|refine qG ?_|refine qH ?_);try simp (maxSteps:=1000000)(disch:=(first|omega|(simp only [qI,qJ,qK]<;>omega)|exact qL _)) only [go_sem,↓reduceIte,n0,reduceCtorEq,n1,n2,n3,n4,n5,i0,i1,i2,i3,i4,i5,i6,i7])
      have l1 := blk_lt hi7
      have l2 := blk_lt hm7
      refine W.drawR (.take 0 (.take 1 (.take 2 (.take 3 (.take 4 (.take 5 (.take 6 (.take 7 (.take 8 (.take 10 (.take 11 (.take 13 (.two 9 (.only 12 (.only 14 (.only 15 (.take 16 (.only 17 .done))))) 12 (.only 9 (.only 14 (.only 15 (.take 16 (.only 17 .done)))))))))))))))))) NoB mixed (by kernel_rfl) ?_
      have hEd : Ext w7 w7.drew := (Upd.refl _ _).drew
      have hE0d := hE07.trans hEd
      have hB6 := ((Own.bytes (ok := AnyB) ho6 fun _ _ => trivial).keep (Ext.keeps hE7 _)).keep (Ext.keeps hEd _)
      have hB7 := (Own.bytes (ok := AnyB) ho7 fun _ _ => trivial).keep (Ext.keeps hEd _)
      try simp (maxSteps:=1000000)(disch:=(first|omega|(simp only [qI,qJ,qK]<;>omega)|exact qL _)) only [go_sem,↓reduceIte,n0,reduceCtorEq,n1,n2,n3,n4,n5,i0,i1,i2,i3,i4,i5,i6,i7,hi7,hm7,fF,cellsAt_two,cells_strV,flat_strV,convK_strV]
      generalize w7.drew = w7d at *
      have hfl : (frameS 89 ver number (!has) id (flexB 0 ver) (partS 2 fs_StreamsGroupDescribeRequest ver (flexB 0 ver) t)).length ≤ 2 ^ 42 := by
        have := frameB_len 89 ver number (!has) id (flexB 0 ver) (partS 2 fs_StreamsGroupDescribeRequest ver (flexB 0 ver) t) (by omega)
        simp only [frameS,List.length_append,fixedS_len]
        omega
      have hsame : decide ((frameS 89 ver number (!has) id (flexB 0 ver) (partS 2 fs_StreamsGroupDescribeRequest ver (flexB 0 ver) t)) = (frameS 89 ver number (!has) id (flexB 0 ver) (partS 2 fs_StreamsGroupDescribeRequest ver (flexB 0 ver) t))) = true := decide_eq_true rfl
      refine ⟨?_,?_⟩
      · skip
        refine wp_octets (S := 9) (T := 24) (E := 5) (s := id) (by kernel_rfl) (by kernel_rfl) (by kernel_rfl) (by first | rfl | simp (maxSteps:=1000000)(disch:=(first|omega|(simp only [qI,qJ,qK]<;>omega)|exact qL _)) only [go_sem,↓reduceIte,n0,reduceCtorEq,n1,n2,n3,n4,n5,i0,i1,i2,i3,i4,i5,i6,i7]) ?_
        intro a8 k8 w8 hB8 hE8
        refine ⟨hE8,?_⟩
        try simp (maxSteps:=1000000)(disch:=(first|omega|(simp only [qI,qJ,qK]<;>omega)|exact qL _)) only [go_sem,↓reduceIte,n0,reduceCtorEq,n1,n2,n3,n4,n5,i0,i1,i2,i3,i4,i5,i6,i7]
        refine (Flexible_fn vs 0 ver fF w8).mono ?_
        rintro _ w9 ⟨rfl,hE9⟩
        have hE89 := hE8.trans hE9
        have hI := (hB8.weaken (ok' := AnyB) fun _ _ _ => trivial).keep (Ext.keeps hE9 _)
        refine ⟨hE89,?_⟩
        try simp (maxSteps:=1000000)(disch:=(first|omega|(simp only [qI,qJ,qK]<;>omega)|exact qL _)) only [go_sem,↓reduceIte,n0,reduceCtorEq,n1,n2,n3,n4,n5,i0,i1,i2,i3,i4,i5,i6,i7]
        refine (Frame_fn 89 ver number hnum has (flexB 0 ver) id (partS 2 fs_StreamsGroupDescribeRequest ver (flexB 0 ver) t) _ _ w9 hI (hB6.keep (Ext.keeps hE89 _)) (by omega) hpl).mono ?_
        rintro r10 w10 ⟨ho10,hE10⟩
        have hE810 := hE89.trans hE10
        refine ⟨hE810,?_⟩
        obtain ⟨a10,c10,rfl,_⟩ := ho10.shape
        try simp (maxSteps:=1000000)(disch:=(first|omega|(simp only [qI,qJ,qK]<;>omega)|exact qL _)) only [go_sem,↓reduceIte,n0,reduceCtorEq,n1,n2,n3,n4,n5,i0,i1,i2,i3,i4,i5,i6,i7]
        refine (Same_fn (ok := AnyB) (frameS 89 ver number (!has) id (flexB 0 ver) (partS 2 fs_StreamsGroupDescribeRequest ver (flexB 0 ver) t)) (frameS 89 ver number (!has) id (flexB 0 ver) (partS 2 fs_StreamsGroupDescribeRequest ver (flexB 0 ver) t)) _ _ w10 (hB7.keep (Ext.keeps hE810 _)) (Own.bytes ho10 fun _ _ => trivial) (by omega)).mono ?_
        rintro _ w11 ⟨rfl,hE11⟩
        refine ⟨hE810.trans hE11,?_⟩
        try simp (maxSteps:=1000000)(disch:=(first|omega|(simp only [qI,qJ,qK]<;>omega)|exact qL _)) only [go_sem,↓reduceIte,n0,reduceCtorEq,n1,n2,n3,n4,n5,i0,i1,i2,i3,i4,i5,i6,i7,hsame]
        try refine ⟨hE810.trans hE11,?_⟩
        repeat ((first | refine qA rfl ?_|refine qB ?_|refine qC rfl ?_|refine qD ?_|refine qE ?_|refine qF ?_|refine qG ?_|refine qH ?_);try simp (maxSteps:=1000000)(disch:=(first|omega|(simp only [qI,qJ,qK]<;>omega)|exact qL _)) only [go_sem,↓reduceIte,n0,reduceCtorEq,n1,n2,n3,n4,n5,i0,i1,i2,i3,i4,i5,i6,i7,hsame])
        all_goals exact hE0d.trans (hE810.trans hE11)
      · skip
        refine (Flexible_fn vs 0 ver fF w7d).mono ?_
        rintro _ w8 ⟨rfl,hE8⟩
        refine ⟨hE8,?_⟩
        try simp (maxSteps:=1000000)(disch:=(first|omega|(simp only [qI,qJ,qK]<;>omega)|exact qL _)) only [go_sem,↓reduceIte,n0,reduceCtorEq,n1,n2,n3,n4,n5,i0,i1,i2,i3,i4,i5,i6,i7,convK_strV]
        refine wp_octets (S := 9) (T := 24) (E := 5) (s := id) (by kernel_rfl) (by kernel_rfl) (by kernel_rfl) (by first | rfl | simp (maxSteps:=1000000)(disch:=(first|omega|(simp only [qI,qJ,qK]<;>omega)|exact qL _)) only [go_sem,↓reduceIte,n0,reduceCtorEq,n1,n2,n3,n4,n5,i0,i1,i2,i3,i4,i5,i6,i7]) ?_
        intro a8 k8 w9 hB8 hE9
        have hE89 := hE8.trans hE9
        have hI := hB8.weaken (ok' := AnyB) fun _ _ _ => trivial
        refine ⟨hE89,?_⟩
        try simp (maxSteps:=1000000)(disch:=(first|omega|(simp only [qI,qJ,qK]<;>omega)|exact qL _)) only [go_sem,↓reduceIte,n0,reduceCtorEq,n1,n2,n3,n4,n5,i0,i1,i2,i3,i4,i5,i6,i7]
        refine (Frame_fn 89 ver number hnum has (flexB 0 ver) id (partS 2 fs_StreamsGroupDescribeRequest ver (flexB 0 ver) t) _ _ w9 hI (hB6.keep (Ext.keeps hE89 _)) (by omega) hpl).mono ?_
        rintro r10 w10 ⟨ho10,hE10⟩
        have hE810 := hE89.trans hE10
        refine ⟨hE810,?_⟩
        obtain ⟨a10,c10,rfl,_⟩ := ho10.shape
        try simp (maxSteps:=1000000)(disch:=(first|omega|(simp only [qI,qJ,qK]<;>omega)|exact qL _)) only [go_sem,↓reduceIte,n0,reduceCtorEq,n1,n2,n3,n4,n5,i0,i1,i2,i3,i4,i5,i6,i7]
        refine (Same_fn (ok := AnyB) (frameS 89 ver number (!has) id (flexB 0 ver) (partS 2 fs_StreamsGroupDescribeRequest ver (flexB 0 ver) t)) (frameS 89 ver number (!has) id (flexB 0 ver) (partS 2 fs_StreamsGroupDescribeRequest ver (flexB 0 ver) t)) _ _ w10 (hB7.keep (Ext.keeps hE810 _)) (Own.bytes ho10 fun _ _ => trivial) (by omega)).mono ?_
        rintro _ w11 ⟨rfl,hE11⟩
        refine ⟨hE810.trans hE11,?_⟩
        try simp (maxSteps:=1000000)(disch:=(first|omega|(simp only [qI,qJ,qK]<;>omega)|exact qL _)) only [go_sem,↓reduceIte,n0,reduceCtorEq,n1,n2,n3,n4,n5,i0,i1,i2,i3,i4,i5,i6,i7,hsame]
        try refine ⟨hE810.trans hE11,?_⟩
        repeat ((first | refine qA rfl ?_|refine qB ?_|refine qC rfl ?_|refine qD ?_|refine qE ?_|refine qF ?_|refine qG ?_|refine qH ?_);try simp (maxSteps:=1000000)(disch:=(first|omega|(simp only [qI,qJ,qK]<;>omega)|exact qL _)) only [go_sem,↓reduceIte,n0,reduceCtorEq,n1,n2,n3,n4,n5,i0,i1,i2,i3,i4,i5,i6,i7,hsame])
        all_goals exact hE0d.trans (hE810.trans hE11)

end Ms

