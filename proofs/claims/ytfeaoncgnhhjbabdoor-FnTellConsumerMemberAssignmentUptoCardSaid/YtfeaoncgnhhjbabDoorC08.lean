/- A part of the proof: see the last text. -/
import Derived.Test.YtfeaoncgnhhjbabDoorC02
import Derived.Test.YtfeaoncgnhhjbabDoorC03
import Derived.Test.YtfeaoncgnhhjbabDoorC06
import Derived.Test.YtfeaoncgnhhjbabDoorC07
set_option linter.unusedSimpArgs false
set_option linter.unusedVariables false
namespace Ms
open Go

section
variable {pw : List Fld → Int → Bool → Tree → List UInt8} {pc : List Fld → Tree → Tree} {P : List Fld → Tree → Prop} {v : Int} {flex : Bool}
theorem nilS_bool (f : Fld) (b : Bool) (n : Nat) : (0 ≤ f.null → nilS f v (if (b && decide (f.null ≥ 0) && decide (v ≥ f.null)) = true then -1 else (n : Int)) = (b && decide (f.null ≥ 0) && decide (v ≥ f.null))) := by
  intro h
  unfold nilS
  rw [if_pos h]
  have h1 : decide (f.null ≥ 0) = true := by simpa using h
  rw [h1]
  by_cases h2 : f.null ≤ v
  · have h3 : decide (v ≥ f.null) = true := by simpa using h2
    rw [h3]
    cases b <;> simp
  · have h3 : decide (v ≥ f.null) = false := by simpa using h2
    rw [h3];simp
theorem nilS_eq (f : Fld) (t : Tree) (n : Nat) (h : 0 ≤ f.null) : nilS f v (if nullS f v t = true then -1 else (n : Int)) = nullS f v t := nilS_bool f t.null n h
end
theorem cnL_get (pc : List Fld → Tree → Tree) (dp : List Fld → Tree) (v : Int) (t : Tree) : ∀ (fs : List Fld) (i k : Nat) (h : k < fs.length),(cnL pc dp v t fs i).getD k .zero = if fs[k].tag < 0 ∧ hasS fs[k] v = true then cnF pc v fs[k] (t.at (i + k)) else dfF dp fs[k]
  | f :: fs,i,0,h => by simp [cnL]
  | f :: fs,i,k + 1,h => by
    have := cnL_get pc dp v t fs (i + 1) k (by simpa using h)
    simp only [cnL,List.getD_cons_succ,List.getElem_cons_succ]
    rw [this,show i + 1 + k = i + (k + 1) by omega]

inductive N64 : Tree → Prop
  | mk {n : Int} {s : List UInt8} {null : Bool} {l : List Tree} {u : List TagD} (hn : IntKind.i64.wrap n = n) (he : ∀ x ∈ l,N64 x) : N64 (.mk n s null l u)
theorem N64.n {t : Tree} (h : N64 t) : IntKind.i64.wrap t.n = t.n := by cases h;assumption
theorem N64.l {t : Tree} (h : N64 t) : ∀ x ∈ t.l,N64 x := by cases h;assumption
theorem N64.zero : N64 .zero := .mk (by decide) (fun _ h => by cases h)
theorem N64.at {t : Tree} (h : N64 t) (i : Nat) : N64 (t.at i) := by
  unfold Tree.at
  rcases Nat.lt_or_ge i t.l.length with hi | hi
  · rw [List.getD_eq_getElem?_getD,List.getElem?_eq_getElem hi];exact h.l _ (List.getElem_mem hi)
  · rw [List.getD_eq_getElem?_getD,List.getElem?_eq_none hi];exact N64.zero
theorem TreeC.n64 {ok : Blocks} {w : World} {t : Tree} {cs : List Value} (h : TreeC ok w t cs) : N64 t := by
  induction h with
  | mk hn hS hL hl he hU ih =>
    refine .mk hn fun x hx => ?_
    obtain ⟨i,hi,rfl⟩ := List.getElem_of_mem hx
    exact ih i hi (by omega)

/-! ### What is read is of no great length -/
theorem i64_idem (n : Int) : IntKind.i64.wrap (IntKind.i64.wrap n) = IntKind.i64.wrap n := by
  have : -9223372036854775808 ≤ IntKind.i64.wrap n ∧ IntKind.i64.wrap n ≤ 9223372036854775807 := by
    unfold IntKind.wrap;simp [IntKind.bits,IntKind.signed];split <;> omega
  exact i64_wrap (by omega)
theorem cn1_good {d : Nat} {v : Int} {flex : Bool} (k : Int) (sub : List Fld) (null : Bool) (x : Tree) (hp : k = 10 → GoodP d sub (cnP d v flex sub x)) : Good1 (GoodP d) k sub (cn1 (cnP d v flex) k sub null x) := by
  unfold cn1
  by_cases h0 : k = 0
  · rw [if_pos h0];exact good1_num (by omega) (by omega)
  rw [if_neg h0]
  by_cases h7 : k = 7
  · rw [if_pos h7];exact good1_oct (by rw [uuidS_len];omega) (by omega)
  rw [if_neg h7]
  by_cases h8 : k = 8 ∨ k = 9
  · rw [if_pos h8]
    refine good1_oct ?_ (by omega)
    split
    · simp
    · simp only [wholeS,List.length_take];omega
  rw [if_neg h8]
  by_cases h10 : k = 10
  · rw [if_pos h10]
    refine ⟨fun h => by omega,?_,fun _ => hp h10⟩
    cases d <;> simp [cnP,Tree.zero,Tree.s]
  rw [if_neg h10]
  refine good1_num (fun h4 => ?_) h10
  subst h4
  exact i64_idem _
theorem cnF_good {d : Nat} {v : Int} {flex : Bool} (f : Fld) (x : Tree) (hp : f.kind = 10 ∨ f.of = 10 → ∀ y,GoodP d f.sub (cnP d v flex f.sub y)) : GoodF (GoodP d) f (cnF (cnP d v flex) v f x) := by
  unfold GoodF cnF
  by_cases h11 : f.kind = 11
  · rw [if_pos h11,if_pos h11]
    simp only [Tree.l]
    split
    · exact ⟨by simp,fun y hy => by cases hy⟩
    · refine ⟨by simp only [List.length_map,thingsS,List.length_take];omega,fun y hy => ?_⟩
      obtain ⟨z,_,rfl⟩ := List.mem_map.1 hy
      exact cn1_good _ _ _ _ fun h => hp (.inr h) z
  · rw [if_neg h11,if_neg h11]
    split
    · rename_i h10
      split
      · exact ⟨fun _ => rfl,by simp [Tree.s],fun _ => GoodP_none true d f.sub⟩
      · exact ⟨fun h => by omega,by cases d <;> simp [cnP,Tree.s,Tree.zero],fun _ => hp (.inl h10.1) x⟩
    · exact cn1_good _ _ _ _ fun h => hp (.inl h) x
theorem cnL_all3 {R : Fld → Tree → Prop} {pc : List Fld → Tree → Tree} {dp : List Fld → Tree} {v : Int} {t : Tree} : ∀ (fs : List Fld) (i : Nat),(∀ f ∈ fs,(∀ x,R f (cnF pc v f x)) ∧ R f (dfF dp f)) → All3 R fs (cnL pc dp v t fs i)
  | [],_,_ => .nil
  | f :: fs,i,h => .cons (by split;exact (h f (by simp)).1 _;exact (h f (by simp)).2) (cnL_all3 fs (i + 1) fun g hg => h g (by simp [hg]))
theorem cnP_good (v : Int) (flex : Bool) : ∀ (d : Nat) (fs : List Fld) (t : Tree),okDf d fs = true → GoodP d fs (cnP d v flex fs t)
  | 0,_,_,_ => trivial
  | d + 1,fs,t,h => by
    refine ⟨?_,?_⟩
    · have := goodL_of (G := GoodP d) (n := 0) (s := []) (nl := false) (u := if flex = true then (unknownS fs t.u).map fun u => (u.1,wholeS u.2) else []) [] (cnL_all3 (R := GoodF (GoodP d)) (pc := cnP d v flex) (dp := dfP d) (v := v) (t := t) fs 0 fun f hf => by
        obtain ⟨h4,hs⟩ := okDf_f h hf
        exact ⟨fun x => cnF_good f x fun hk y => cnP_good v flex d f.sub y (hs hk),dfF_good (fun hk => ⟨dfP_good d f.sub (hs (.inl hk)),(dfP_sn d f.sub).1⟩) h4⟩)
      exact this
    · show GoodU (if flex = true then (unknownS fs t.u).map fun u => (u.1,wholeS u.2) else [])
      split
      · refine ⟨by rw [List.length_map];exact unknownS_len' fs t.u,?_,fun y hy => ?_⟩
        · rw [List.map_map]
          have h1 := (unknownS_spec fs t.u).1
          have : (unknownS fs t.u).map ((fun x => x.1) ∘ fun u => (u.1,wholeS u.2)) = (unknownS fs t.u).map (·.1) := rfl
          rw [this]
          exact List.nodup_iff_pairwise_ne.2 (List.pairwise_map.2 (h1.imp fun h => by omega))
        · obtain ⟨z,_,rfl⟩ := List.mem_map.1 hy
          simp only [wholeS,List.length_take];omega
      · exact ⟨by simp,by simp,fun y hy => by cases hy⟩

/-! ### It is told as it was -/
theorem tlL_get (tp : List Fld → Tree → Tree) (t : Tree) : ∀ (fs : List Fld) (i k : Nat) (h : k < fs.length),(tlL tp t fs i).getD k .zero = tlF tp fs[k] (t.at (i + k))
  | f :: fs,i,0,h => by simp [tlL]
  | f :: fs,i,k + 1,h => by
    have := tlL_get tp t fs (i + 1) k (by simpa using h)
    simp only [tlL,List.getD_cons_succ,List.getElem_cons_succ]
    rw [this,show i + 1 + k = i + (k + 1) by omega]
theorem sortT_rising {u : List TagD} (h : u.Pairwise fun a b => a.1 < b.1) : sortT u = u :=
  List.mergeSort_of_pairwise (h.imp fun h => by simpa using Nat.le_of_lt h)
def okT : List Fld → Bool
  | fs => fs.all fun f => decide ((0 ≤ f.null → 8 ≤ f.kind) ∧ ¬ (f.kind = 10 ∧ 0 ≤ f.null))
def okTs : Nat → List Fld → Bool
  | 0,_ => true
  | d + 1,fs => okT fs && fs.all fun f => okTs d f.sub
theorem mod2_if (n : Int) : (if n % 2 = 1 then (1 : Int) else 0) = n % 2 := by split <;> omega
theorem IntKind_idem (k : IntKind) (hk : k = .i8 ∨ k = .i16 ∨ k = .i32 ∨ k = .u16) (n : Int) : k.wrap (k.wrap n) = k.wrap n := by
  rcases hk with h | h | h | h <;> subst h <;> (unfold IntKind.wrap;simp [IntKind.bits,IntKind.signed]) <;> (try split) <;> (try split) <;> omega
theorem wrapN_kind (k : Int) (hk : numK k) (n : Int) (h4 : IntKind.i64.wrap n = n) : wrapN k ((kindK k).wrap n) = numS k n := by
  rcases hk with h | h | h | h | h | h <;> subst h <;> simp [wrapN,kindK,numS]
  · exact IntKind_idem _ (by simp) _
  · exact IntKind_idem _ (by simp) _
  · exact IntKind_idem _ (by simp) _
  · exact h4
  · exact IntKind_idem _ (by simp) _
  · exact h4
theorem Tree.at_mk (n : Int) (s : List UInt8) (b : Bool) (l : List Tree) (u : List TagD) (i : Nat) : (Tree.mk n s b l u).at i = l.getD i .zero := rfl
theorem map_getD {α β : Type} (f : α → β) (l : List α) (i : Nat) (h : i < l.length) (z : β) : (l.map f).getD i z = f l[i] := by
  simp [List.getD_eq_getElem?_getD,h]
section
variable {d : Nat} {v : Int} {flex : Bool}
theorem tl1_told (T : List Fld → Tree → Tree → Prop) (tp : List Fld → Tree → Tree) (k : Int) (sub : List Fld) (x : Tree) (hx : N64 x) (hk : k = 0 ∨ numK k ∨ (7 ≤ k ∧ k ≤ 10)) (hp : k = 10 → T sub x (tp sub (cnP d v flex sub x))) : Told1 T k sub x (tl1 tp k sub (cn1 (cnP d v flex) k sub false x)) := by
  unfold Told1
  by_cases h8 : k = 8
  · subst h8;simp [tl1,cn1,Tree.oct,Tree.s]
  by_cases h9 : k = 9
  · subst h9;simp [tl1,cn1,Tree.oct,Tree.s,Tree.null]
  rw [if_neg (by omega)]
  by_cases h7 : k = 7
  · subst h7;simp [tl1,cn1,Tree.oct,Tree.s,uuidS_idem]
  rw [if_neg h7]
  by_cases h10 : k = 10
  · subst h10;rw [if_pos rfl];simpa [tl1,cn1] using hp rfl
  rw [if_neg h10]
  by_cases h0 : k = 0
  · subst h0
    have : (x.n % 2) % 2 = x.n % 2 := by omega
    simp [tl1,cn1,Tree.num,Tree.n,numS,mod2_if,this]
  · have hn : numK k := by rcases hk with h | h | h <;> first | exact absurd h h0 | exact h | omega
    have e : tl1 tp k sub (cn1 (cnP d v flex) k sub false x) = .num (wrapN k ((kindK k).wrap x.n)) := by simp [tl1,cn1,h0,h7,h8,h9,h10,Tree.num,Tree.n]
    rw [e,wrapN_kind k hn x.n hx.n];rfl
theorem tl1_null (k : Int) (sub : List Fld) (x : Tree) (tp : List Fld → Tree → Tree) (h : k = 8 ∨ k = 10) (hp : ∀ x,(tp sub x).null = false) : (tl1 tp k sub x).null = false := by
  rcases h with h | h <;> subst h
  · simp [tl1,Tree.oct,Tree.null]
  · simpa [tl1] using hp x
theorem tlP_null (d : Nat) (fs : List Fld) (x : Tree) : (tlP d fs x).null = false := by cases d <;> rfl
theorem tlF_told (T : List Fld → Tree → Tree → Prop) (f : Fld) (x : Tree) (hx : N64 x) (hk : f.kind = 11 ∨ f.kind = 0 ∨ numK f.kind ∨ (7 ≤ f.kind ∧ f.kind ≤ 10)) (ho : f.of = 0 ∨ numK f.of ∨ (7 ≤ f.of ∧ f.of ≤ 10)) (hn : ¬ (f.kind = 10 ∧ 0 ≤ f.null)) (ht : 0 ≤ f.null → 8 ≤ f.kind)
    (hp : ∀ y,N64 y → T f.sub y (tlP d f.sub (cnP d v flex f.sub y))) : ToldF T v f x (tlF (tlP d) f (cnF (cnP d v flex) v f x)) := by
  by_cases h11 : f.kind = 11
  · have e : tlF (tlP d) f (cnF (cnP d v flex) v f x) = .mk 0 [] (nilS f v (if nullS f v x = true then -1 else ((thingsS x.l).length : Nat))) ((if nilS f v (if nullS f v x = true then -1 else ((thingsS x.l).length : Nat)) = true then [] else (if nullS f v x = true then [] else (thingsS x.l).map (cn1 (cnP d v flex) f.of f.sub false))).map (tl1 (tlP d) f.of f.sub)) [] := by
      unfold tlF cnF
      rw [if_pos h11,if_neg (by omega),if_pos h11];rfl
    rw [e]
    refine ⟨fun h => ?_,fun h => ?_⟩
    · rcases h with h | h | h
      · omega
      · omega
      · simp only [mayS,Bool.and_eq_true,decide_eq_true_eq] at h
        exact nilS_eq f x _ h.1
    · rw [if_pos h11,h]
      have hl : (if nilS f v (if (false : Bool) = true then -1 else ((thingsS x.l).length : Nat)) = true then [] else (if (false : Bool) = true then ([] : List Tree) else (thingsS x.l).map (cn1 (cnP d v flex) f.of f.sub false))) = (thingsS x.l).map (cn1 (cnP d v flex) f.of f.sub false) := by
        simp only [Bool.false_eq_true,if_false]
        split
        · rename_i hni
          have : (thingsS x.l).length = 0 := by
            unfold nilS at hni
            split at hni
            · simp only [Bool.and_eq_true,decide_eq_true_eq] at hni;omega
            · simp only [decide_eq_true_eq] at hni;omega
          rw [List.length_eq_zero_iff.1 this];rfl
        · rfl
      rw [hl]
      refine ⟨by simp [Tree.l],fun i hi => ?_⟩
      have hat : (Tree.mk 0 [] (nilS f v (if (false : Bool) = true then -1 else ((thingsS x.l).length : Nat))) (((thingsS x.l).map (cn1 (cnP d v flex) f.of f.sub false)).map (tl1 (tlP d) f.of f.sub)) []).at i = tl1 (tlP d) f.of f.sub (cn1 (cnP d v flex) f.of f.sub false (thingsS x.l)[i]) := by
        rw [Tree.at_mk,map_getD _ _ _ (by rw [List.length_map];exact hi),List.getElem_map]
      have hm : N64 (thingsS x.l)[i] := hx.l _ (List.mem_of_mem_take (List.getElem_mem hi))
      rw [hat]
      exact ⟨fun h => tl1_null _ _ _ _ h fun y => tlP_null d f.sub y,tl1_told T (tlP d) f.of f.sub _ hm ho fun _ => hp _ hm⟩
  · have hk' : f.kind = 0 ∨ numK f.kind ∨ (7 ≤ f.kind ∧ f.kind ≤ 10) := by
      rcases hk with h | h
      · exact absurd h h11
      · exact h
    have ec : cnF (cnP d v flex) v f x = cn1 (cnP d v flex) f.kind f.sub (nullS f v x) x := by unfold cnF;rw [if_neg h11,if_neg hn]
    rw [ec]
    refine ⟨fun h => ?_,fun h => ?_⟩
    · by_cases h8 : f.kind = 8
      · by_cases hnl : 0 ≤ f.null
        · simp [tlF,cn1,h8,hnl,Tree.oct,Tree.null]
        · simp [tlF,tl1,cn1,h8,hnl,Tree.oct,Tree.null,nullS]
      by_cases h10 : f.kind = 10
      · have hnl : ¬ 0 ≤ f.null := fun h' => hn ⟨h10,h'⟩
        have e : tlF (tlP d) f (cn1 (cnP d v flex) f.kind f.sub (nullS f v x) x) = tlP d f.sub (cnP d v flex f.sub x) := by simp [tlF,tl1,cn1,h10]
        rw [e,tlP_null];simp [nullS,hnl]
      have hm : mayS f v = true := by rcases h with h | h | h <;> first | exact absurd h h8 | exact absurd h h10 | exact h
      simp only [mayS,Bool.and_eq_true,decide_eq_true_eq] at hm
      have h8' := ht hm.1
      have h9 : f.kind = 9 := by
        rcases hk' with h | h | h
        · omega
        · unfold numK at h;omega
        · omega
      simp [tlF,tl1,cn1,h9,Tree.oct,Tree.null]
    · rw [if_neg h11,h]
      by_cases h8 : f.kind = 8 ∧ 0 ≤ f.null
      · have e : tlF (tlP d) f (cn1 (cnP d v flex) f.kind f.sub false x) = .oct false (wholeS x.s) := by simp [tlF,cn1,h8,Tree.oct,Tree.null,Tree.s]
        rw [e];unfold Told1;rw [if_pos (.inl h8.1)];rfl
      · have e : tlF (tlP d) f (cn1 (cnP d v flex) f.kind f.sub false x) = tl1 (tlP d) f.kind f.sub (cn1 (cnP d v flex) f.kind f.sub false x) := by
          unfold tlF;rw [if_neg h8,if_neg h11]
        rw [e]
        exact tl1_told T (tlP d) f.kind f.sub x hx hk' fun _ => hp x hx
theorem tlF_df (D : List Fld → Tree → Prop) (f : Fld) (hk : f.kind = 11 ∨ f.kind = 0 ∨ numK f.kind ∨ (7 ≤ f.kind ∧ f.kind ≤ 10)) (hn : ¬ (f.kind = 10 ∧ 0 ≤ f.null)) (hp : D f.sub (tlP d f.sub ((dfP d f.sub).setNull false))) : DfF D f (tlF (tlP d) f (dfF (dfP d) f)) := by
  unfold DfF
  by_cases h8 : f.kind = 8
  · rw [if_pos h8]
    by_cases hnl : 0 ≤ f.null <;> simp [tlF,tl1,dfF,h8,hnl,Tree.oct,Tree.null,Tree.s]
  rw [if_neg h8]
  by_cases h7 : f.kind = 7
  · rw [if_pos h7];simp [tlF,tl1,dfF,h7,Tree.oct,Tree.s,uuidS_idem]
  rw [if_neg h7]
  by_cases h9 : f.kind = 9
  · rw [if_pos (.inl h9)];simp [tlF,tl1,dfF,h9,Tree.oct,Tree.null,Tree.s,Tree.l]
  by_cases h11 : f.kind = 11
  · rw [if_pos (.inr h11)];simp [tlF,dfF,h11,Tree.null,Tree.s,Tree.l]
  rw [if_neg (by omega)]
  by_cases h10 : f.kind = 10
  · rw [if_pos h10]
    have hnl : ¬ 0 ≤ f.null := fun h => hn ⟨h10,h⟩
    refine ⟨fun h => absurd h hnl,fun _ => ?_⟩
    have e : tlF (tlP d) f (dfF (dfP d) f) = tlP d f.sub ((dfP d f.sub).setNull false) := by simp [tlF,tl1,dfF,h10,hnl]
    rw [e];exact hp
  rw [if_neg h10]
  by_cases h0 : f.kind = 0
  · simp [tlF,tl1,dfF,h0,Tree.num,Tree.n,numS,mod2_if]
  · simp [tlF,tl1,dfF,h0,h7,h8,h9,h10,h11,Tree.num,Tree.n,numS]
end
theorem df_told (v : Int) (flex : Bool) : ∀ (d : Nat) (fs : List Fld),okR d v flex fs = true → okTs d fs = true → DfP (d + 1) fs (tlP (d + 1) fs ((dfP (d + 1) fs).setNull false)) := by
  intro d
  induction d with
  | zero =>
    intro fs h _
    have hnil : fs = [] := by simpa [okR] using h
    subst hnil
    exact ⟨sortT_rising List.Pairwise.nil,fun i h => by cases h⟩
  | succ d ih =>
    intro fs h hT
    refine ⟨sortT_rising List.Pairwise.nil,fun i hi => ?_⟩
    obtain ⟨g1,g2,g3,-,g5,g6⟩ := okR_el h (List.getElem_mem hi)
    simp only [okTs,okT,Bool.and_eq_true,List.all_eq_true,decide_eq_true_eq] at hT
    have g4 := (hT.1 _ (List.getElem_mem hi)).2
    have e : (tlP (d + 1 + 1) fs ((dfP (d + 1 + 1) fs).setNull false)).at i = tlF (tlP (d + 1)) fs[i] (dfF (dfP (d + 1)) fs[i]) := by
      rw [tlP,Tree.at_mk,tlL_get _ _ fs 0 i hi,Nat.zero_add]
      congr 1
      simp only [dfP,Tree.setNull,Tree.at_mk,Tree.l]
      exact map_getD _ _ _ hi _
    rw [e]
    exact tlF_df _ _ g2 g4 (ih fs[i].sub g5 (hT.2 _ (List.getElem_mem hi)))
theorem told_cn (v : Int) (flex : Bool) : ∀ (d : Nat) (fs : List Fld) (t : Tree),okR d v flex fs = true → okTs d fs = true → N64 t → ToldP (d + 1) v flex fs t (tlP (d + 1) fs (cnP (d + 1) v flex fs t)) := by
  have hu : ∀ (d : Nat) (fs : List Fld) (t : Tree),(tlP (d + 1) fs (cnP (d + 1) v flex fs t)).u = (if flex = true then (unknownS fs t.u).map fun u => (u.1,wholeS u.2) else []) := fun d fs t => by
    show sortT (if flex = true then (unknownS fs t.u).map fun u => (u.1,wholeS u.2) else []) = _
    refine sortT_rising ?_
    split
    · exact List.pairwise_map.2 (unknownS_spec fs t.u).1
    · exact List.Pairwise.nil
  have hl : ∀ (d : Nat) (fs : List Fld) (t : Tree),(tlP (d + 1) fs (cnP (d + 1) v flex fs t)).l.length = fs.length := fun d fs t => tlL_len _ _ _ _
  intro d
  induction d with
  | zero =>
    intro fs t h _ _
    have hnil : fs = [] := by simpa [okR] using h
    subst hnil
    exact ⟨hl 0 [] t,hu 0 [] t,fun i h => by cases h⟩
  | succ d ih =>
    intro fs t h hT hN
    refine ⟨hl _ _ _,hu _ _ _,fun i hi => ?_⟩
    obtain ⟨g1,g2,g3,-,g5,g6⟩ := okR_el h (List.getElem_mem hi)
    simp only [okTs,okT,Bool.and_eq_true,List.all_eq_true,decide_eq_true_eq] at hT
    have g4 := (hT.1 _ (List.getElem_mem hi)).2
    have e : (tlP (d + 1 + 1) fs (cnP (d + 1 + 1) v flex fs t)).at i = tlF (tlP (d + 1)) fs[i] (if fs[i].tag < 0 ∧ hasS fs[i] v = true then cnF (cnP (d + 1) v flex) v fs[i] (t.at i) else dfF (dfP (d + 1)) fs[i]) := by
      rw [tlP,Tree.at_mk,tlL_get _ _ fs 0 i hi,Nat.zero_add]
      congr 1
      have := cnL_get (cnP (d + 1) v flex) (dfP (d + 1)) v t fs 0 i hi
      rw [Nat.zero_add] at this
      exact this
    rw [e]
    have hlv : liveS (d + 1 + 1) v flex fs[i] (t.at i) = hasS fs[i] v := by
      have : ¬ 0 ≤ fs[i].tag := by omega
      simp [liveS,g1,this]
    rw [hlv]
    by_cases hh : hasS fs[i] v = true
    · rw [if_pos hh,if_pos ⟨g1,hh⟩]
      exact tlF_told (d := d + 1) (v := v) (flex := flex) _ fs[i] (t.at i) (hN.at i) g2 g3 g4 (hT.1 _ (List.getElem_mem hi)).1 fun y hy => ih fs[i].sub y g5 (hT.2 _ (List.getElem_mem hi)) hy
    · rw [if_neg hh,if_neg fun h => hh h.2]
      exact tlF_df _ _ g2 g4 (df_told v flex d fs[i].sub g5 (hT.2 _ (List.getElem_mem hi)))

def ReadQF (T : TypeId) (ok : Blocks) (ver : Int) (d : Nat) (fs : List Fld) (vb : Nat) (w : World) (fin : Tree × St) (ev : Value) (r : Value) (w' : World) : Prop :=
  (fin.2 = none → r = ev) ∧ (fin.2 ≠ none → r = .nilIface ∧ ∃ cells,blk w' vb = some ((.int .i16 ver :: cells).toArray,T,(0,0)) ∧ RepS false d fs (okN ok w.heap.size) w' fin.1 cells) ∧ Upd (fun b => b = vb) w w'
theorem ReadQF.bad {T : TypeId} {ok : Blocks} {ver : Int} {d : Nat} {fs : List Fld} {vb : Nat} {w : World} {fin : Tree × St} {ev : Value} {w' : World} (h : fin.2 = none) (hu : Upd (fun b => b = vb) w w') : ReadQF T ok ver d fs vb w fin ev ev w' :=
  ⟨fun _ => rfl,fun h' => absurd h h',hu⟩
theorem RepS.introF {d : Nat} {fs : List Fld} {ok : Blocks} {w : World} {t : Tree} {c : List Value} (h1 : RepL (RepS false d) (szS false d) ok w t fs 0 c) : RepS false (d + 1) fs ok w t c :=
  ⟨c,[],by simp,h1,by rw [if_neg (by decide)]⟩
theorem RepS.invF {d : Nat} {fs : List Fld} {ok : Blocks} {w : World} {t : Tree} {cs : List Value} (h : RepS false (d + 1) fs ok w t cs) : RepL (RepS false d) (szS false d) ok w t fs 0 cs := by
  obtain ⟨c,m,h1,h2,h3⟩ := h
  rw [if_neg (by decide)] at h3
  subst h3
  rw [List.append_nil] at h1
  rw [h1];exact h2

def tlPF : Nat → List Fld → Tree → Tree
  | 0,_,_ => .zero
  | d + 1,fs,t => .mk 0 [] false (tlL (tlPF d) t fs 0) []
inductive NoU : Tree → Prop where
  | mk {n : Int} {s : List UInt8} {b : Bool} {l : List Tree} (h : ∀ x ∈ l,NoU x) : NoU (.mk n s b l [])
theorem NoU.zero : NoU .zero := .mk fun _ h => by cases h
theorem NoU.num (n : Int) : NoU (.num n) := .mk fun _ h => by cases h
theorem NoU.oct (b : Bool) (s : List UInt8) : NoU (.oct b s) := .mk fun _ h => by cases h
theorem NoU.el {t : Tree} (h : NoU t) : ∀ x ∈ t.l,NoU x := by cases h with | mk h => exact h
theorem NoU.u {t : Tree} (h : NoU t) : t.u = [] := by cases h with | mk h => rfl
theorem NoU.at {t : Tree} (h : NoU t) (i : Nat) : NoU (t.at i) := by
  unfold Tree.at
  rcases Nat.lt_or_ge i t.l.length with hi | hi
  · rw [List.getD_eq_getElem?_getD,List.getElem?_eq_getElem hi]
    exact h.el _ (List.getElem_mem hi)
  · rw [List.getD_eq_getElem?_getD,List.getElem?_eq_none hi]
    exact NoU.zero
theorem NoU.setNull {t : Tree} (h : NoU t) (b : Bool) : NoU (t.setNull b) := by
  cases h with | mk h => exact .mk h
section
variable {p q : List Fld → Tree → Tree} (hpq : ∀ sub x,NoU x → p sub x = q sub x)
include hpq
theorem tl1_congr (k : Int) (sub : List Fld) {x : Tree} (h : NoU x) : tl1 p k sub x = tl1 q k sub x := by
  unfold tl1;rw [hpq sub x h]
theorem tlF_congr (f : Fld) {x : Tree} (h : NoU x) : tlF p f x = tlF q f x := by
  unfold tlF
  rw [tl1_congr hpq f.kind f.sub h]
  split
  · rfl
  · split
    · congr 1
      refine List.map_congr_left fun y hy => tl1_congr hpq _ _ ?_
      split at hy
      · cases hy
      · exact h.el y hy
    · rfl
theorem tlL_congr {t : Tree} (h : NoU t) : ∀ (fs : List Fld) (i : Nat),tlL p t fs i = tlL q t fs i
  | [],_ => rfl
  | f :: fs,i => by rw [tlL,tlL,tlF_congr hpq f (h.at i),tlL_congr h fs (i + 1)]
end
theorem tlPF_eq : ∀ (d : Nat) (fs : List Fld) (t : Tree),NoU t → tlPF d fs t = tlP d fs t
  | 0,_,_,_ => rfl
  | d + 1,fs,t,h => by
    rw [tlPF,tlP,tlL_congr (fun sub x hx => tlPF_eq d sub x hx) h fs 0,h.u,show sortT [] = [] from sortT_rising List.Pairwise.nil]
theorem dfF_noU {dp : List Fld → Tree} (h : ∀ sub,NoU (dp sub)) (f : Fld) : NoU (dfF dp f) := by
  unfold dfF
  split
  · exact NoU.oct _ _
  · split
    · exact NoU.oct _ _
    · split
      · exact NoU.oct _ _
      · split
        · exact .mk fun _ h => by cases h
        · split
          · exact (h _).setNull _
          · exact NoU.num _
theorem dfP_noU : ∀ (d : Nat) (fs : List Fld),NoU (dfP d fs)
  | 0,_ => NoU.zero
  | d + 1,fs => .mk fun x hx => by
    obtain ⟨f,_,rfl⟩ := List.mem_map.1 hx
    exact dfF_noU (dfP_noU d) f
theorem cn1_noU {pc : List Fld → Tree → Tree} (h : ∀ sub x,NoU (pc sub x)) (k : Int) (sub : List Fld) (b : Bool) (t : Tree) : NoU (cn1 pc k sub b t) := by
  unfold cn1
  split
  · exact NoU.num _
  · split
    · exact NoU.oct _ _
    · split
      · exact NoU.oct _ _
      · split
        · exact h _ _
        · exact NoU.num _
theorem cnF_noU {pc : List Fld → Tree → Tree} (h : ∀ sub x,NoU (pc sub x)) (v : Int) (f : Fld) (t : Tree) : NoU (cnF pc v f t) := by
  unfold cnF
  split
  · refine .mk fun x hx => ?_
    split at hx
    · cases hx
    · obtain ⟨y,_,rfl⟩ := List.mem_map.1 hx
      exact cn1_noU h _ _ _ _
  · split
    · split
      · exact .mk fun _ h => by cases h
      · exact h _ _
    · exact cn1_noU h _ _ _ _
theorem cnL_noU {pc : List Fld → Tree → Tree} {dp : List Fld → Tree} (h : ∀ sub x,NoU (pc sub x)) (hd : ∀ sub,NoU (dp sub)) (v : Int) (t : Tree) : ∀ (fs : List Fld) (i : Nat),∀ x ∈ cnL pc dp v t fs i,NoU x
  | [],_,x,hx => by cases hx
  | f :: fs,i,x,hx => by
    rw [cnL] at hx
    rcases List.mem_cons.1 hx with rfl | hx
    · split
      · exact cnF_noU h _ _ _
      · exact dfF_noU hd _
    · exact cnL_noU h hd v t fs (i + 1) x hx
theorem cnP_noU (v : Int) : ∀ (d : Nat) (fs : List Fld) (t : Tree),NoU (cnP d v false fs t)
  | 0,_,_ => NoU.zero
  | d + 1,fs,t => by
    rw [cnP,if_neg (by decide)]
    exact .mk fun x hx => cnL_noU (cnP_noU v d) (dfP_noU d) v t fs 0 x hx
theorem tlPF_cn (v : Int) (d : Nat) (fs : List Fld) (t : Tree) : tlPF d fs (cnP d v false fs t) = tlP d fs (cnP d v false fs t) := tlPF_eq _ _ _ (cnP_noU v d fs t)

section
variable {P : List Fld → Tree → Prop} {V : Int} {f : Fld} {t : Tree}
theorem FitWF.listL (h : FitWF P V f t) (hk : f.kind = 11) {L : List Tree} (hL : L = if nullS f V t = true then [] else t.l) : L.length ≤ 32767 ∧ ∀ x ∈ L,Fit1 P f.of f.sub x := by
  subst hL
  split
  · exact ⟨by simp,fun x hx => by cases hx⟩
  · exact h.list hk
variable {pt : List Fld → Int → Bool → Tree → List UInt8} {flex : Bool}
end
theorem optBytes_shapeN {ok : Blocks} {w : World} {v : Value} {null : Bool} {s : List UInt8} (h : OptBytes ok w v null s) : (null = true ∧ v = .slice none 0 0) ∨ (null = false ∧ ∃ a c,v = .slice (some a) s.length c ∧ BytesV ok w v s) := by
  unfold OptBytes at h
  cases null with
  | true => rw [if_pos rfl] at h;exact .inl ⟨rfl,h⟩
  | false =>
    rw [if_neg (by decide)] at h
    obtain ⟨hb,a,n,c,rfl⟩ := h
    obtain ⟨a',c',e,_⟩ := id hb
    rw [List.length_map] at e
    cases e
    exact .inr ⟨rfl,_,_,rfl,hb⟩
end Ms

namespace Ms
open Go.World renaming size_alloc → qI
open Ms renaming size_wr → qJ,size_drew → qK,not_noB → qL
open W renaming seqR → qA,seq → qB,regR → qC,condK → qD,block → qE,skip → qF,ret → qG,exit → qH
open Nat renaming reduceEqDiff → n0,reduceAdd → n1,reduceMul → n2,reduceSub → n3,reduceLT → n4,reduceLeDiff → n5
open Int renaming reduceEq → i0,reduceLT → i1,reduceLE → i2,reduceNeg → i3,reduceAdd → i4,reduceSub → i5,reduceMul → i6,reduceToNat → i7
set_option maxRecDepth 4000
open Go Go.Proofs Go.Shelf
attribute [local congr] W_congr WPsq_congr WPp_congr optK_congr addrK_congr intK_congr boolK_congr sliceK_congr tupleK_congr funcK_congr Fn_congr rawK_congr takeK_congr stepK_congr convK_congr aggK_congr

theorem octetsTree_fn {ok : Blocks} (v : Value) (null : Bool) (s : List UInt8) (w : World) (h : OptBytes ok w v null s) (hl : s.length ≤ 2 ^ 40) :
    Fn Tryd.prog 30 #[v] w fun r w' => (∃ vS,r = .agg #[.int .i64 0,vS,.bool null,.slice none 0 0,.slice none 0 0] ∧ BytesV (fun b => w.heap.size ≤ b) w' vS (if null = true then [] else s)) ∧ Ext w w' := by
  have hE1 : Ext w (w.alloc (.cells #[.int .i64 0,.slice none 0 0,.bool false,.slice none 0 0,.slice none 0 0] 35)) := Upd.alloc (Upd.refl _ _) _
  have hb1 : blk (w.alloc (.cells #[.int .i64 0,.slice none 0 0,.bool false,.slice none 0 0,.slice none 0 0] 35)) w.heap.size = some (#[.int .i64 0,.slice none 0 0,.bool false,.slice none 0 0,.slice none 0 0],35,(0,0)) := blk_alloc_new rfl
  have hz1 : (w.alloc (.cells #[.int .i64 0,.slice none 0 0,.bool false,.slice none 0 0,.slice none 0 0] 35)).heap.size = w.heap.size + 1 := World.size_alloc _ _
  refine fn_of_W Tryd.func30 rfl Tryd.results30 Tryd.ntmps30 rfl ?_
  rcases optBytes_shapeN h with ⟨rfl,rfl⟩ | ⟨rfl,a,c,rfl,hb⟩
  · rw [if_pos rfl]
    repeat ((first | refine qA rfl ?_|apply qB|refine qC rfl ?_|apply qD|apply qE|apply qF|apply qG|apply qH);try simp (disch:=(first|omega|(simp only [qI,qJ,qK]<;>omega)|exact qL _)) only [go_sem,↓reduceIte,n0,reduceCtorEq,n1,n2,n3,n4,n5,i0,i1,i2,i3,i4,i5,i6,i7])
    generalize (w.alloc (.cells #[.int .i64 0,.slice none 0 0,.bool false,.slice none 0 0,.slice none 0 0] 35)) = w1 at *
    refine wp_copyN ap_22_22 (ok := AnyB) (s := []) (v := .slice none 0 0) (by first | rfl | simp (disch:=(first|omega|(simp only [qI,qJ,qK]<;>omega)|exact qL _)) only [go_sem,↓reduceIte,n0,reduceCtorEq,n1,n2,n3,n4,n5,i0,i1,i2,i3,i4,i5,i6,i7]) (by first | rfl | simp (disch:=(first|omega|(simp only [qI,qJ,qK]<;>omega)|exact qL _)) only [go_sem,↓reduceIte,n0,reduceCtorEq,n1,n2,n3,n4,n5,i0,i1,i2,i3,i4,i5,i6,i7]) (BytesV.nil _ _) (by first | omega | simp) ?_
    intro v' w' ho hE hf
    obtain ⟨av,kv,rfl,_⟩ := ho.shape
    have hB := Own.bytes (ok := fun b => w.heap.size + 1 ≤ b) ho fun b hb => by have := hf b hb;omega
    have hb2 := hE.blk_some hb1 id
    have hz2 := hE.size
    have hfl := hB.flat
    simp (disch:=(first|omega|(simp only [qI,qJ,qK]<;>omega)|exact qL _)) only [go_sem,↓reduceIte,n0,reduceCtorEq,n1,n2,n3,n4,n5,i0,i1,i2,i3,i4,i5,i6,i7,hb2,hfl]
    repeat ((first | refine qA rfl ?_|apply qB|refine qC rfl ?_|apply qD|apply qE|apply qF|apply qG|apply qH);try simp (disch:=(first|omega|(simp only [qI,qJ,qK]<;>omega)|exact qL _)) only [go_sem,↓reduceIte,n0,reduceCtorEq,n1,n2,n3,n4,n5,i0,i1,i2,i3,i4,i5,i6,i7,hb2,hfl,cellsAt_five])
    refine ⟨⟨_,rfl,?_⟩,(hE1.trans hE).wr _ _ (.inl (Nat.le_refl _))⟩
    exact (hB.keep (((Upd.refl (fun b => b = w.heap.size) _).wr _ _ (.inr rfl)).keeps fun b _ hk e => by omega)).weaken fun b _ hk => by omega
  · rw [if_neg (by decide)]
    repeat ((first | refine qA rfl ?_|apply qB|refine qC rfl ?_|apply qD|apply qE|apply qF|apply qG|apply qH);try simp (disch:=(first|omega|(simp only [qI,qJ,qK]<;>omega)|exact qL _)) only [go_sem,↓reduceIte,n0,reduceCtorEq,n1,n2,n3,n4,n5,i0,i1,i2,i3,i4,i5,i6,i7])
    generalize (w.alloc (.cells #[.int .i64 0,.slice none 0 0,.bool false,.slice none 0 0,.slice none 0 0] 35)) = w1 at *
    refine wp_copyN ap_22_22 (ok := ok) (s := s) (v := .slice (some a) s.length c) (by first | rfl | simp (disch:=(first|omega|(simp only [qI,qJ,qK]<;>omega)|exact qL _)) only [go_sem,↓reduceIte,n0,reduceCtorEq,n1,n2,n3,n4,n5,i0,i1,i2,i3,i4,i5,i6,i7]) (by first | rfl | simp (disch:=(first|omega|(simp only [qI,qJ,qK]<;>omega)|exact qL _)) only [go_sem,↓reduceIte,n0,reduceCtorEq,n1,n2,n3,n4,n5,i0,i1,i2,i3,i4,i5,i6,i7]) (hb.keep (hE1.keeps _)) (by first | omega | simp) ?_
    intro v' w' ho hE hf
    obtain ⟨av,kv,rfl,_⟩ := ho.shape
    have hB := Own.bytes (ok := fun b => w.heap.size + 1 ≤ b) ho fun b hb => by have := hf b hb;omega
    have hb2 := hE.blk_some hb1 id
    have hz2 := hE.size
    have hfl := hB.flat
    simp (disch:=(first|omega|(simp only [qI,qJ,qK]<;>omega)|exact qL _)) only [go_sem,↓reduceIte,n0,reduceCtorEq,n1,n2,n3,n4,n5,i0,i1,i2,i3,i4,i5,i6,i7,hb2,hfl]
    repeat ((first | refine qA rfl ?_|apply qB|refine qC rfl ?_|apply qD|apply qE|apply qF|apply qG|apply qH);try simp (disch:=(first|omega|(simp only [qI,qJ,qK]<;>omega)|exact qL _)) only [go_sem,↓reduceIte,n0,reduceCtorEq,n1,n2,n3,n4,n5,i0,i1,i2,i3,i4,i5,i6,i7,hb2,hfl,cellsAt_five])
    refine ⟨⟨_,rfl,?_⟩,(hE1.trans hE).wr _ _ (.inl (Nat.le_refl _))⟩
    exact (hB.keep (((Upd.refl (fun b => b = w.heap.size) _).wr _ _ (.inr rfl)).keeps fun b _ hk e => by omega)).weaken fun b _ hk => by omega

end Ms

namespace Ms
open Nat renaming reduceEqDiff → n0,reduceAdd → n1,reduceMul → n2,reduceSub → n3,reduceLT → n4,reduceLeDiff → n5
open Int renaming reduceEq → i0,reduceLT → i1,reduceLE → i2,reduceNeg → i3,reduceAdd → i4,reduceSub → i5,reduceMul → i6,reduceToNat → i7
set_option maxRecDepth 4000
open Go Go.Proofs Go.Shelf
attribute [local congr] W_congr WPsq_congr WPp_congr optK_congr addrK_congr intK_congr boolK_congr sliceK_congr tupleK_congr funcK_congr Fn_congr rawK_congr takeK_congr stepK_congr convK_congr aggK_congr

end Ms

namespace Ms
open Go.World renaming size_alloc → qI
open Ms renaming size_wr → qJ,size_drew → qK,not_noB → qL
open W renaming seqR → qA,seq → qB,regR → qC,condK → qD,block → qE,skip → qF,ret → qG,exit → qH
open Nat renaming reduceEqDiff → n0,reduceAdd → n1,reduceMul → n2,reduceSub → n3,reduceLT → n4,reduceLeDiff → n5
open Int renaming reduceEq → i0,reduceLT → i1,reduceLE → i2,reduceNeg → i3,reduceAdd → i4,reduceSub → i5,reduceMul → i6,reduceToNat → i7
set_option maxRecDepth 8000
set_option maxHeartbeats 2000000
open Go Go.Proofs Go.Shelf
attribute [local congr] W_congr WPsq_congr WPp_congr optK_congr addrK_congr intK_congr boolK_congr sliceK_congr tupleK_congr funcK_congr Fn_congr rawK_congr takeK_congr stepK_congr convK_congr aggK_congr

theorem got_step (t : Tree) (hl2 : t.l.length ≤ 32767) (hl3 : t.u.length ≤ 32767)
    (hrec : ∀ i (h : i < t.l.length),∀ (ok : Blocks) (ct : List Value) (w : World),TreeC ok w t.l[i] ct → Fn Tryd.prog 10 #[.agg ct.toArray] w fun r w' => TreeRg ok w w' r t.l[i] ∧ Ext w w')
    (ok : Blocks) (ct : List Value) (w : World) (ht : TreeC ok w t ct) :
    Fn Tryd.prog 10 #[.agg ct.toArray] w fun r w' => TreeRg ok w w' r t ∧ Ext w w' := by
  obtain ⟨vS,vL,vU,rfl,hn,hS,hL,hU⟩ := ht.inv
  obtain ⟨bS,cS,rfl,hcS⟩ := hS.shape
  obtain ⟨bl,cl,rfl,hcl⟩ := SlR.shape hL
  obtain ⟨bu,cu,rfl,hcu⟩ := SlR.shape hU
  have hE : Ext w (wr (((w.alloc (.cells #[.int .i64 t.n,.slice bS t.s.length cS,.bool t.null,.slice bl t.l.length cl,.slice bu t.u.length cu] 35)).alloc (.cells #[.int .i64 0,.slice none 0 0,.bool false,.slice none 0 0,.slice none 0 0] 26)).alloc (.cells #[.int .i64 0,.slice none 0 0,.bool false,.slice none 0 0,.slice none 0 0] 26)) (w.heap.size + 2) 0 [.int .i64 t.n,.slice bS t.s.length cS,.bool t.null,.slice none 0 0,.slice none 0 0]) := (((Upd.refl _ _).alloc _).alloc _).alloc _ |>.wr _ _ (.inl (by omega))
  refine fn_of_W Tryd.func10 rfl Tryd.results10 Tryd.ntmps10 rfl ?_
  repeat ((first | refine qA rfl ?_|apply qB|refine qC rfl ?_|apply qD|apply qE|apply qF|apply qG|apply qH);try simp (disch:=(first|omega|(simp only [qI,qJ,qK]<;>omega)|exact qL _)) only [go_sem,↓reduceIte,n0,reduceCtorEq,n1,n2,n3,n4,n5,i0,i1,i2,i3,i4,i5,i6,i7])
  have hb0 : blk (wr (((w.alloc (.cells #[.int .i64 t.n,.slice bS t.s.length cS,.bool t.null,.slice bl t.l.length cl,.slice bu t.u.length cu] 35)).alloc (.cells #[.int .i64 0,.slice none 0 0,.bool false,.slice none 0 0,.slice none 0 0] 26)).alloc (.cells #[.int .i64 0,.slice none 0 0,.bool false,.slice none 0 0,.slice none 0 0] 26)) (w.heap.size + 2) 0 [.int .i64 t.n,.slice bS t.s.length cS,.bool t.null,.slice none 0 0,.slice none 0 0]) w.heap.size = some (#[.int .i64 t.n,.slice bS t.s.length cS,.bool t.null,.slice bl t.l.length cl,.slice bu t.u.length cu],35,(0,0)) := by simp (disch:=(first|omega|(simp only [qI,qJ,qK]<;>omega)|exact qL _)) only [go_sem,↓reduceIte,n0,reduceCtorEq,n1,n2,n3,n4,n5,i0,i1,i2,i3,i4,i5,i6,i7]
  have hb1 : blk (wr (((w.alloc (.cells #[.int .i64 t.n,.slice bS t.s.length cS,.bool t.null,.slice bl t.l.length cl,.slice bu t.u.length cu] 35)).alloc (.cells #[.int .i64 0,.slice none 0 0,.bool false,.slice none 0 0,.slice none 0 0] 26)).alloc (.cells #[.int .i64 0,.slice none 0 0,.bool false,.slice none 0 0,.slice none 0 0] 26)) (w.heap.size + 2) 0 [.int .i64 t.n,.slice bS t.s.length cS,.bool t.null,.slice none 0 0,.slice none 0 0]) (w.heap.size + 1) = some (#[.int .i64 0,.slice none 0 0,.bool false,.slice none 0 0,.slice none 0 0],26,(0,0)) := by simp (disch:=(first|omega|(simp only [qI,qJ,qK]<;>omega)|exact qL _)) only [go_sem,↓reduceIte,n0,reduceCtorEq,n1,n2,n3,n4,n5,i0,i1,i2,i3,i4,i5,i6,i7]
  have hb2 : blk (wr (((w.alloc (.cells #[.int .i64 t.n,.slice bS t.s.length cS,.bool t.null,.slice bl t.l.length cl,.slice bu t.u.length cu] 35)).alloc (.cells #[.int .i64 0,.slice none 0 0,.bool false,.slice none 0 0,.slice none 0 0] 26)).alloc (.cells #[.int .i64 0,.slice none 0 0,.bool false,.slice none 0 0,.slice none 0 0] 26)) (w.heap.size + 2) 0 [.int .i64 t.n,.slice bS t.s.length cS,.bool t.null,.slice none 0 0,.slice none 0 0]) (w.heap.size + 2) = some (#[.int .i64 t.n,.slice bS t.s.length cS,.bool t.null,.slice none 0 0,.slice none 0 0],26,(0,0)) := by simp (disch:=(first|omega|(simp only [qI,qJ,qK]<;>omega)|exact qL _)) only [go_sem,↓reduceIte,n0,reduceCtorEq,n1,n2,n3,n4,n5,i0,i1,i2,i3,i4,i5,i6,i7]
  have hz2 : (wr (((w.alloc (.cells #[.int .i64 t.n,.slice bS t.s.length cS,.bool t.null,.slice bl t.l.length cl,.slice bu t.u.length cu] 35)).alloc (.cells #[.int .i64 0,.slice none 0 0,.bool false,.slice none 0 0,.slice none 0 0] 26)).alloc (.cells #[.int .i64 0,.slice none 0 0,.bool false,.slice none 0 0,.slice none 0 0] 26)) (w.heap.size + 2) 0 [.int .i64 t.n,.slice bS t.s.length cS,.bool t.null,.slice none 0 0,.slice none 0 0]).heap.size = w.heap.size + 3 := by simp only [size_wr,World.size_alloc]
  generalize (wr (((w.alloc (.cells #[.int .i64 t.n,.slice bS t.s.length cS,.bool t.null,.slice bl t.l.length cl,.slice bu t.u.length cu] 35)).alloc (.cells #[.int .i64 0,.slice none 0 0,.bool false,.slice none 0 0,.slice none 0 0] 26)).alloc (.cells #[.int .i64 0,.slice none 0 0,.bool false,.slice none 0 0,.slice none 0 0] 26)) (w.heap.size + 2) 0 [.int .i64 t.n,.slice bS t.s.length cS,.bool t.null,.slice none 0 0,.slice none 0 0]) = w2 at *
  refine W.exitJ 0 (fun ρ w' => ∃ v,ρ 1 = .pointer (some ⟨w.heap.size,0,none⟩) ∧ ρ 2 = .pointer (some ⟨w.heap.size + 1,0,none⟩) ∧ ρ 3 = .pointer (some ⟨w.heap.size + 2,0,none⟩) ∧
      blk w' (w.heap.size + 2) = some (#[.int .i64 t.n,.slice bS t.s.length cS,.bool t.null,v,.slice none 0 0],26,(0,0)) ∧ GrowT (fun b => okN ok w.heap.size b ∧ b ≠ w.heap.size + 1 ∧ b ≠ w.heap.size + 2) w2.heap.size (w.heap.size + 2) w' 26 v t.l ∧ Upd (fun b => b = w.heap.size + 2) w2 w')
    (W.loop (fun ρ w' => ∃ (j : Nat) (v : Value),j ≤ t.l.length ∧ ρ 18 = .int .i64 j ∧ ρ 17 = .int .i64 t.l.length ∧ ρ 16 = .slice bl t.l.length cl ∧ ρ 1 = .pointer (some ⟨w.heap.size,0,none⟩) ∧ ρ 2 = .pointer (some ⟨w.heap.size + 1,0,none⟩) ∧ ρ 3 = .pointer (some ⟨w.heap.size + 2,0,none⟩) ∧
      blk w' (w.heap.size + 2) = some (#[.int .i64 t.n,.slice bS t.s.length cS,.bool t.null,v,.slice none 0 0],26,(0,0)) ∧ GrowT (fun b => okN ok w.heap.size b ∧ b ≠ w.heap.size + 1 ∧ b ≠ w.heap.size + 2) w2.heap.size (w.heap.size + 2) w' 26 v (t.l.take j) ∧ Upd (fun b => b = w.heap.size + 2) w2 w')
    (fun ρ _ => t.l.length - (RowKit.intOf (ρ 18)).toNat) ?_ ?_) ?_
  · refine ⟨0,_,Nat.zero_le _,?_,?_,?_,?_,?_,?_,hb2,GrowT.nil _ _ _ _ _,Upd.refl _ _⟩ <;> simp (disch:=(first|omega|(simp only [qI,qJ,qK]<;>omega)|exact qL _)) only [go_sem,↓reduceIte,n0,reduceCtorEq,n1,n2,n3,n4,n5,i0,i1,i2,i3,i4,i5,i6,i7]
    all_goals rfl
  · rintro ρ w6 ⟨j,v,hj,h18,h17,h16,h1,h2,h3,hbt,hg,hU6⟩
    have hz6 := hU6.size
    have hE06 : Ext w w6 := hE.more hU6 fun b hb h => by omega
    by_cases hlt : j < t.l.length
    · obtain ⟨_,b,o,x,vS',vL',vU',hb,hokb,hx,hblt,hxs,hxe,g1,g2,g3,hc⟩ := TreesV.get hL hlt
      subst hb
      have hx6 : blk w6 b = some x := hE06.blk_some hx id
      have hcat : t.l.take (j + 1) = t.l.take j ++ [t.l[j]] := List.take_succ_eq_append_getElem hlt
      have hlen9 : (t.l.take j).length = j := by simp;omega
      have hnb : ∀ b,b < w2.heap.size ∨ b = w6.heap.size → ¬ ownB v b := fun b hb h => by
        have := hg.above h
        have := hg.below h
        omega
      have hE7 : Ext w6 (wr (w6.alloc (.cells #[.int .i64 0,.slice none 0 0,.bool false,.slice none 0 0,.slice none 0 0] 35)) w6.heap.size 0 [.int .i64 t.l[j].n,vS',.bool t.l[j].null,vL',vU']) := (Upd.alloc (Upd.refl _ _) _).wr _ _ (.inl (Nat.le_refl _))
      have hb7 : blk (wr (w6.alloc (.cells #[.int .i64 0,.slice none 0 0,.bool false,.slice none 0 0,.slice none 0 0] 35)) w6.heap.size 0 [.int .i64 t.l[j].n,vS',.bool t.l[j].null,vL',vU']) w6.heap.size = some (#[.int .i64 t.l[j].n,vS',.bool t.l[j].null,vL',vU'],35,(0,0)) := by simp (disch:=(first|omega|(simp only [qI,qJ,qK]<;>omega)|exact qL _)) only [go_sem,↓reduceIte,n0,reduceCtorEq,n1,n2,n3,n4,n5,i0,i1,i2,i3,i4,i5,i6,i7]
      have hz7 : (wr (w6.alloc (.cells #[.int .i64 0,.slice none 0 0,.bool false,.slice none 0 0,.slice none 0 0] 35)) w6.heap.size 0 [.int .i64 t.l[j].n,vS',.bool t.l[j].null,vL',vU']).heap.size = w6.heap.size + 1 := by simp only [size_wr,World.size_alloc]
      have hrecj := hrec j hlt (fun b => ok b ∧ b < w.heap.size) [.int .i64 t.l[j].n,vS',.bool t.l[j].null,vL',vU']
      repeat ((first | refine qA rfl ?_|apply qB|refine qC rfl ?_|apply qD|apply qE|apply qF|apply qG|apply qH);try simp (disch:=(first|omega|(simp only [qI,qJ,qK]<;>omega)|exact qL _)) only [go_sem,↓reduceIte,n0,reduceCtorEq,n1,n2,n3,n4,n5,i0,i1,i2,i3,i4,i5,i6,i7,h18,h17,h16,hx6,hxe,g1,g2,g3,cellsAt_five,Int.toNat_natCast])
      generalize (wr (w6.alloc (.cells #[.int .i64 0,.slice none 0 0,.bool false,.slice none 0 0,.slice none 0 0] 35)) w6.heap.size 0 [.int .i64 t.l[j].n,vS',.bool t.l[j].null,vL',vU']) = w7 at *
      have hbt7 := hE7.blk_some hbt id
      refine W.drawR (.take 0 (.take 1 (.take 2 (.only 3 (.only 4 (.only 5 (.take 6 (.last 7)))))))) (ownB v) mixed (by kernel_rfl) ?_
      simp (disch:=(first|omega|(simp only [qI,qJ,qK]<;>omega)|exact qL _ | (refine hnb _ ?_;first | omega | (simp only [World.size_alloc,size_wr,size_drew] <;> omega)))) only [go_sem,↓reduceIte,n0,reduceCtorEq,n1,n2,n3,n4,n5,i0,i1,i2,i3,i4,i5,i6,i7,h3,hbt7,hb7,cellsAt_five,cellsAt_eight]
      have hE7d : Ext w7 w7.drew := (Upd.refl _ _).drew
      have hE07d : Ext w w7.drew := (hE06.trans hE7).trans hE7d
      have hzd : w7.drew.heap.size = w7.heap.size := size_drew _
      refine (hrecj w7.drew ((hc.weaken fun b h1 h2 => ⟨h2,h1⟩).keep (hE07d.keeps _))).mono ?_
      rintro v8 w8 ⟨⟨c8,rfl,hc8⟩,hE8⟩
      generalize t.l[j] = T at *
      obtain ⟨vS8,vL8,vU8,rfl,hn8,hS8,hL8,hU8⟩ := hc8.inv
      have k1 := hS8.flat
      have k2 := SlR.flat hL8
      have k3 := SlR.flat hU8
      have hz8 := hE8.size
      simp only [size_drew] at hz8
      have hM8 : Upd (ownB v) w7.drew w8 := hE8.mono (fun _ h => h.elim)
      have hE68 : Ext w6 w8 := (hE7.trans hE7d).trans hE8
      have hE9 : Ext w8 (w8.alloc (.cells #[.int .i64 T.n,vS8,.bool T.null,vL8,vU8] 26)) := Upd.alloc (Upd.refl _ _) _
      have hM9 : Upd (ownB v) w7.drew (w8.alloc (.cells #[.int .i64 T.n,vS8,.bool T.null,vL8,vU8] 26)) := hM8.alloc _
      refine ⟨hM8,?_⟩
      simp (disch:=(first|omega|(simp only [qI,qJ,qK]<;>omega)|exact qL _)) only [go_sem,↓reduceIte,n0,reduceCtorEq,n1,n2,n3,n4,n5,i0,i1,i2,i3,i4,i5,i6,i7,k1,k2,k3]
      refine ⟨hM9,?_⟩
      have hg9 := (hg.ext hE68).ext hE9
      have hx9 : TreeC (fun b => (fun b => okN ok w.heap.size b ∧ b ≠ w.heap.size + 1 ∧ b ≠ w.heap.size + 2) b ∧ b ≠ w.heap.size + 2 ∧ ¬ ownB v b) (w8.alloc (.cells #[.int .i64 T.n,vS8,.bool T.null,vL8,vU8] 26)) T [.int .i64 T.n,vS8,.bool T.null,vL8,vU8] :=
        (hc8.keep (hE9.keeps _)).weaken fun b _ hk => by
          rcases hk with ⟨h1,h2⟩ | h2
          · exact ⟨⟨.inl h1,by omega,by omega⟩,by omega,fun h => by have := hg.above h;omega⟩
          · exact ⟨⟨.inr (by omega),by omega,by omega⟩,by omega,fun h => by have := hg.below h;omega⟩
      obtain ⟨css,hown,hall⟩ := hg9.ex
      have hcl9 := hall.1
      refine wp_append ap_23_23 (m := 1) (news := [.int .i64 T.n,vS8,.bool T.null,vL8,vU8]) (n := css.length) (cs := css.flatten) (v := v) ?_ rfl hown.1 (all2_flat_tree hall) (Src.blk (fr := (0,0)) (T := 26) (blk_alloc_new rfl) rfl (flat_tree hx9).1) ?_ ?_ ?_
      · simp (disch:=(first|omega|(simp only [qI,qJ,qK]<;>omega)|exact qL _)) only [go_sem,↓reduceIte,n0,reduceCtorEq,n1,n2,n3,n4,n5,i0,i1,i2,i3,i4,i5,i6,i7]
      · simp only [World.size_alloc];omega
      · omega
      intro v' w10 ho hu hfr
      have hg10 := GrowT.snoc hown hall hx9 hu hfr ho
      have hz10 := hu.size
      simp only [World.size_alloc] at hz10
      obtain ⟨va,vc,hv',_⟩ := ho.shape
      subst hv'
      have hbt10 := (hM9.trans hu).blk_some (hE7d.blk_some hbt7 id) (hnb _ (by omega))
      have htb : ¬ ownB (.slice va (css.length + 1) vc) (w.heap.size + 2) := fun h => by
        rcases hfr _ h with h | h
        · exact hnb _ (.inl (by omega)) h
        · simp only [World.size_alloc] at h;omega
      simp (disch:=(first|omega|(simp only [qI,qJ,qK]<;>omega)|exact qL _)) only [go_sem,↓reduceIte,n0,reduceCtorEq,n1,n2,n3,n4,n5,i0,i1,i2,i3,i4,i5,i6,i7]
      refine ⟨hM9.trans hu,?_⟩
      simp (disch:=(first|omega|(simp only [qI,qJ,qK]<;>omega)|exact qL _)) only [go_sem,↓reduceIte,n0,reduceCtorEq,n1,n2,n3,n4,n5,i0,i1,i2,i3,i4,i5,i6,i7,h3,hbt10]
      repeat ((first | refine qA rfl ?_|apply qB|refine qC rfl ?_|apply qD|apply qE|apply qF|apply qG|apply qH);try simp (disch:=(first|omega|(simp only [qI,qJ,qK]<;>omega)|exact qL _)) only [go_sem,↓reduceIte,n0,reduceCtorEq,n1,n2,n3,n4,n5,i0,i1,i2,i3,i4,i5,i6,i7,h18])
      refine ⟨⟨j + 1,.slice va (css.length + 1) vc,by omega,rfl,h17,h16,h1,h2,h3,?_,?_,?_⟩,?_⟩
      · simp (disch:=(first|omega|(simp only [qI,qJ,qK]<;>omega)|exact qL _)) only [go_sem,↓reduceIte,n0,reduceCtorEq,n1,n2,n3,n4,n5,i0,i1,i2,i3,i4,i5,i6,i7,hbt10]
      · rw [hcat];exact hg10.upd ((Upd.refl _ _).wr _ _ (.inr rfl)) htb
      · refine Upd.wr ?_ _ _ (.inr rfl)
        exact hU6.more (((hE68.trans hE9).mono fun _ h => h.elim).trans hu) fun b hb h => by have := hg.above h;omega
      · simp only [RowKit.intOf];omega
    · have hjl : j = t.l.length := by omega
      subst hjl
      rw [List.take_length] at hg
      repeat ((first | refine qA rfl ?_|apply qB|refine qC rfl ?_|apply qD|apply qE|apply qF|apply qG|apply qH);try simp (disch:=(first|omega|(simp only [qI,qJ,qK]<;>omega)|exact qL _)) only [go_sem,↓reduceIte,n0,reduceCtorEq,n1,n2,n3,n4,n5,i0,i1,i2,i3,i4,i5,i6,i7,h18,h17])
      exact ⟨v,h1,h2,h3,hbt,hg,hU6⟩
  · rintro ρ w5 ⟨vl,h1,h2,h3,hbt,hg,hU5⟩
    have hz5 := hU5.size
    have hE05 : Ext w w5 := hE.more hU5 fun b hb h => by omega
    have hb05 := hU5.blk_some hb0 (by omega)
    have hb15 := hU5.blk_some hb1 (by omega)
    obtain ⟨al,cl',hvl,hcl'⟩ := hg.shape
    subst hvl
    have hTL : TreesV (fun b => (fun b => okN ok w.heap.size b ∧ b ≠ w.heap.size + 1 ∧ b ≠ w.heap.size + 2) b ∧ b < w5.heap.size) w5 (.slice al t.l.length cl') t.l :=
      (hg.trees (ok' := (fun b => okN ok w.heap.size b ∧ b ≠ w.heap.size + 1 ∧ b ≠ w.heap.size + 2)) (fun _ _ h => h) (fun b hb => ⟨.inr (by omega),by omega,by omega⟩)).weaken fun b h1 h2 => ⟨h2,h1⟩
    simp (disch:=(first|omega|(simp only [qI,qJ,qK]<;>omega)|exact qL _)) only [go_sem,↓reduceIte,n0,reduceCtorEq,n1,n2,n3,n4,n5,i0,i1,i2,i3,i4,i5,i6,i7]
    repeat ((first | refine qA rfl ?_|apply qB|refine qC rfl ?_|apply qD|apply qE|apply qF|apply qG|apply qH);try simp (disch:=(first|omega|(simp only [qI,qJ,qK]<;>omega)|exact qL _)) only [go_sem,↓reduceIte,n0,reduceCtorEq,n1,n2,n3,n4,n5,i0,i1,i2,i3,i4,i5,i6,i7,h1,hb05])
    refine W.loop (fun ρ w' => ∃ (j : Nat) (v : Value),j ≤ t.u.length ∧ ρ 33 = .int .i64 j ∧ ρ 32 = .int .i64 t.u.length ∧ ρ 31 = .slice bu t.u.length cu ∧ ρ 2 = .pointer (some ⟨w.heap.size + 1,0,none⟩) ∧ ρ 3 = .pointer (some ⟨w.heap.size + 2,0,none⟩) ∧
        blk w' (w.heap.size + 2) = some (#[.int .i64 t.n,.slice bS t.s.length cS,.bool t.null,.slice al t.l.length cl',v],26,(0,0)) ∧ GrowU (fun b => okN ok w.heap.size b ∧ b ≠ w.heap.size + 1 ∧ b ≠ w.heap.size + 2) w5.heap.size (w.heap.size + 2) w' 65 v (t.u.take j) ∧ Upd (fun b => b = w.heap.size + 2) w5 w')
      (fun ρ _ => t.u.length - (RowKit.intOf (ρ 33)).toNat) ?_ ?_
    · refine ⟨0,_,Nat.zero_le _,?_,?_,?_,?_,?_,hbt,GrowU.nil _ _ _ _ _,Upd.refl _ _⟩ <;> simp (disch:=(first|omega|(simp only [qI,qJ,qK]<;>omega)|exact qL _)) only [go_sem,↓reduceIte,n0,reduceCtorEq,n1,n2,n3,n4,n5,i0,i1,i2,i3,i4,i5,i6,i7,h2,h3]
      all_goals rfl
    · clear h1 h2 h3 hg hbt
      rintro ρ w6 ⟨j,v,hj,h33,h32',h31,h2,h3,hbt,hg,hU6⟩
      have hz6 := hU6.size
      have hE06 : Ext w w6 := hE05.more hU6 fun b hb h => by omega
      by_cases hlt : j < t.u.length
      · obtain ⟨_,b,o,x,vv,hb,hokb,hx,hblt,hxs,hxe,_,_,hfv,hbv,h32⟩ := TagsV.get hU hlt
        subst hb
        have hx6 : blk w6 b = some x := hE06.blk_some hx id
        have hcat : t.u.take (j + 1) = t.u.take j ++ [(t.u[j].1,t.u[j].2)] := List.take_succ_eq_append_getElem hlt
        have hlen9 : (t.u.take j).length = j := by simp;omega
        have hnb : ∀ b,b < w5.heap.size ∨ b = w6.heap.size → ¬ ownB v b := fun b hb h => by
          have := hg.above h
          have := hg.below h
          omega
        generalize t.u[j].1 = K at *
        generalize t.u[j].2 = S at *
        obtain ⟨b8',c8',rfl,_⟩ := hbv.shape
        have hE8 : Ext w6 (wr (w6.alloc (.cells #[.int .u32 0,.slice none 0 0] 68)) w6.heap.size 0 [.int .u32 K,.slice b8' S.length c8']) := (Upd.alloc (Upd.refl _ _) _).wr _ _ (.inl (Nat.le_refl _))
        have hb8 : blk (wr (w6.alloc (.cells #[.int .u32 0,.slice none 0 0] 68)) w6.heap.size 0 [.int .u32 K,.slice b8' S.length c8']) w6.heap.size = some (#[.int .u32 K,.slice b8' S.length c8'],68,(0,0)) := by simp (disch:=(first|omega|(simp only [qI,qJ,qK]<;>omega)|exact qL _)) only [go_sem,↓reduceIte,n0,reduceCtorEq,n1,n2,n3,n4,n5,i0,i1,i2,i3,i4,i5,i6,i7]
        have hz8 : (wr (w6.alloc (.cells #[.int .u32 0,.slice none 0 0] 68)) w6.heap.size 0 [.int .u32 K,.slice b8' S.length c8']).heap.size = w6.heap.size + 1 := by simp only [size_wr,World.size_alloc]
        repeat ((first | refine qA rfl ?_|apply qB|refine qC rfl ?_|apply qD|apply qE|apply qF|apply qG|apply qH);try simp (disch:=(first|omega|(simp only [qI,qJ,qK]<;>omega)|exact qL _)) only [go_sem,↓reduceIte,n0,reduceCtorEq,n1,n2,n3,n4,n5,i0,i1,i2,i3,i4,i5,i6,i7,h33,h32',h31,h3,hx6,hxe,hbt,cellsAt_two,Int.toNat_natCast])
        generalize (wr (w6.alloc (.cells #[.int .u32 0,.slice none 0 0] 68)) w6.heap.size 0 [.int .u32 K,.slice b8' S.length c8']) = w8' at *
        have hbt8 := hE8.blk_some hbt id
        have hbv8 := (hbv.weaken (ok' := fun b => ok b ∧ b < w.heap.size) fun b h1 h2 => ⟨h2,h1⟩).keep (Ext.keeps (hE06.trans hE8) _)
        have hg8 := hg.ext hE8
        have hMd : Upd (ownB v) w8' (w8'.alloc (.cells #[.int .u32 K,.slice b8' S.length c8'] 65)) := (Upd.refl _ _).alloc _
        have hx9 : TagC (fun b => (fun b => okN ok w.heap.size b ∧ b ≠ w.heap.size + 1 ∧ b ≠ w.heap.size + 2) b ∧ b ≠ w.heap.size + 2 ∧ ¬ ownB v b) (w8'.alloc (.cells #[.int .u32 K,(.slice b8' S.length c8')] 65)) (K,S) [.int .u32 K,(.slice b8' S.length c8')] :=
          ⟨(.slice b8' S.length c8'),rfl,(hbv8.keep (Ext.keeps (Upd.alloc (Upd.refl _ _) _) _)).weaken fun b _ hk => ⟨⟨.inl hk.1,by omega,by omega⟩,by omega,fun h => by have := hg.above h;omega⟩,h32⟩
        have hg9 := hg8.ext (Upd.alloc (Upd.refl _ _) (.cells #[.int .u32 K,(.slice b8' S.length c8')] 65))
        obtain ⟨css9,hown9,hall9⟩ := hg9.ex
        have hcl9 := hall9.1
        refine wp_append ap_24_24 (m := 1) (news := [.int .u32 K,(.slice b8' S.length c8')]) (n := css9.length) (cs := css9.flatten) (v := v) ?_ rfl hown9.1 hall9.flat_cells (Src.blk (fr := (0,0)) (T := 65) (blk_alloc_new (by first | rfl | omega)) rfl (flat_tag hx9).1) ?_ ?_ ?_
        · simp (disch:=(first|omega|(simp only [qI,qJ,qK]<;>omega)|exact qL _)) only [go_sem,↓reduceIte,n0,reduceCtorEq,n1,n2,n3,n4,n5,i0,i1,i2,i3,i4,i5,i6,i7]
        · simp only [World.size_alloc];omega
        · omega
        intro v' w10 ho hu hfr
        have hg10 := GrowU.snoc hown9 hall9 hx9 hu hfr ho
        have hz10 := hu.size
        simp only [World.size_alloc] at hz10
        obtain ⟨va,vc,hv',_⟩ := ho.shape
        subst hv'
        have htb : ¬ ownB (.slice va (css9.length + 1) vc) (w.heap.size + 2) := fun h => by
          rcases hfr _ h with h | h
          · exact hnb _ (.inl (by omega)) h
          · simp only [World.size_alloc] at h;omega
        have hbt10 := (hMd.trans hu).blk_some hbt8 (hnb _ (by omega))
        simp (disch:=(first|omega|(simp only [qI,qJ,qK]<;>omega)|exact qL _)) only [go_sem,↓reduceIte,n0,reduceCtorEq,n1,n2,n3,n4,n5,i0,i1,i2,i3,i4,i5,i6,i7,h3,hbt10]
        repeat ((first | refine qA rfl ?_|apply qB|refine qC rfl ?_|apply qD|apply qE|apply qF|apply qG|apply qH);try simp (disch:=(first|omega|(simp only [qI,qJ,qK]<;>omega)|exact qL _)) only [go_sem,↓reduceIte,n0,reduceCtorEq,n1,n2,n3,n4,n5,i0,i1,i2,i3,i4,i5,i6,i7,h33])
        refine ⟨⟨j + 1,.slice va (css9.length + 1) vc,by omega,rfl,h32',h31,h2,h3,?_,?_,?_⟩,?_⟩
        · simp (disch:=(first|omega|(simp only [qI,qJ,qK]<;>omega)|exact qL _)) only [go_sem,↓reduceIte,n0,reduceCtorEq,n1,n2,n3,n4,n5,i0,i1,i2,i3,i4,i5,i6,i7,hbt10]
        · rw [hcat];exact hg10.upd ((Upd.refl _ _).wr _ _ (.inr rfl)) htb
        · refine Upd.wr ?_ _ _ (.inr rfl)
          exact hU6.more (((hE8.mono fun _ h => h.elim).trans hMd).trans hu) fun b hb h => by have := hg.above h;omega
        · simp only [RowKit.intOf];omega
      · have hjl : j = t.u.length := by omega
        subst hjl
        rw [List.take_length] at hg
        obtain ⟨va,vc,hv',_⟩ := hg.shape
        subst hv'
        have hb16 := hU6.blk_some hb15 (by omega)
        repeat ((first | refine qA rfl ?_|apply qB|refine qC rfl ?_|apply qD|apply qE|apply qF|apply qG|apply qH);try simp (disch:=(first|omega|(simp only [qI,qJ,qK]<;>omega)|exact qL _)) only [go_sem,↓reduceIte,n0,reduceCtorEq,n1,n2,n3,n4,n5,i0,i1,i2,i3,i4,i5,i6,i7,h33,h32',h2,h3,hbt,hb16,cellsAt_five])
        refine ⟨⟨_,rfl,?_⟩,hE06.wr _ _ (.inl (by omega))⟩
        have hTL6 := hTL.keep (hU6.keeps fun b _ hk e => by omega)
        have hTU6 := hg.tags (ok' := (fun b => okN ok w.heap.size b ∧ b ≠ w.heap.size + 1 ∧ b ≠ w.heap.size + 2)) (fun _ _ h => h) (fun b hb => ⟨.inr (by omega),by omega,by omega⟩)
        have hS6 := (hS.weaken (ok' := fun b => ok b ∧ b < w.heap.size) fun b h1 h2 => ⟨h2,h1⟩).keep (Ext.keeps hE06 _)
        have hU9 : Upd (fun b => b = w.heap.size + 1) w6 (wr w6 (w.heap.size + 1) 0 [.int .i64 t.n,.slice bS t.s.length cS,.bool t.null,.slice al t.l.length cl',.slice va t.u.length vc]) := (Upd.refl _ _).wr _ _ (.inr rfl)
        have ht : t = .mk t.n t.s t.null t.l t.u := by cases t;rfl
        rw [ht]
        exact TreeC.intro hn ((hS6.keep (hU9.keeps fun b _ hk e => by omega)).weaken fun b _ hk => .inl hk.1) ((hTL6.keep (hU9.keeps fun b _ hk e => hk.1.2.1 e)).weaken fun b _ hk => hk.1.1) ((hTU6.keep (hU9.keeps fun b _ hk e => hk.2.1 e)).weaken fun b _ hk => hk.1)

theorem got_fn {t : Tree} (h : Lists t) : ∀ (ok : Blocks) (ct : List Value) (w : World),TreeC ok w t ct → Fn Tryd.prog 10 #[.agg ct.toArray] w fun r w' => TreeRg ok w w' r t ∧ Ext w w' := by
  induction h with
  | mk hl hu he ih => exact got_step _ hl hu ih

set_option maxHeartbeats 24000000
open Go Go.Proofs Go.Shelf
attribute [local congr] W_congr WPsq_congr WPp_congr optK_congr addrK_congr intK_congr boolK_congr sliceK_congr tupleK_congr funcK_congr Fn_congr rawK_congr takeK_congr stepK_congr convK_congr aggK_congr

theorem number_fn (k n : Int) (w : World) : Fn Tryd.prog 35 #[.int .i64 k,.int .i64 n] w fun r w' => r = .int .i64 (numS k n) ∧ w' = w := by
  refine fn_of_W Tryd.func35 rfl Tryd.results35 Tryd.ntmps35 rfl ?_
  by_cases h0 : k = 0
  · subst h0
    repeat ((first | refine qA rfl ?_|apply qB|refine qC rfl ?_|apply qD|apply qE|apply qF|apply qG|apply qH);try simp (disch:=(first|omega|(simp only [qI,qJ,qK]<;>omega)|exact qL _)) only [go_sem,↓reduceIte,n0,reduceCtorEq,n1,n2,n3,n4,n5,i0,i1,i2,i3,i4,i5,i6,i7,and1])
    have e : (((n % 2).toNat : Nat) : Int) = n % 2 := by omega
    try rw [e]
    all_goals rfl
  by_cases h1 : k = 1
  · subst h1
    repeat ((first | refine qA rfl ?_|apply qB|refine qC rfl ?_|apply qD|apply qE|apply qF|apply qG|apply qH);try simp (disch:=(first|omega|(simp only [qI,qJ,qK]<;>omega)|exact qL _)) only [go_sem,↓reduceIte,n0,reduceCtorEq,n1,n2,n3,n4,n5,i0,i1,i2,i3,i4,i5,i6,i7,tl8])
    all_goals rfl
  by_cases h2 : k = 2
  · subst h2
    repeat ((first | refine qA rfl ?_|apply qB|refine qC rfl ?_|apply qD|apply qE|apply qF|apply qG|apply qH);try simp (disch:=(first|omega|(simp only [qI,qJ,qK]<;>omega)|exact qL _)) only [go_sem,↓reduceIte,n0,reduceCtorEq,n1,n2,n3,n4,n5,i0,i1,i2,i3,i4,i5,i6,i7,tl16])
    all_goals rfl
  by_cases h3 : k = 3
  · subst h3
    repeat ((first | refine qA rfl ?_|apply qB|refine qC rfl ?_|apply qD|apply qE|apply qF|apply qG|apply qH);try simp (disch:=(first|omega|(simp only [qI,qJ,qK]<;>omega)|exact qL _)) only [go_sem,↓reduceIte,n0,reduceCtorEq,n1,n2,n3,n4,n5,i0,i1,i2,i3,i4,i5,i6,i7,tl32])
    all_goals rfl
  by_cases h5 : k = 5
  · subst h5
    repeat ((first | refine qA rfl ?_|apply qB|refine qC rfl ?_|apply qD|apply qE|apply qF|apply qG|apply qH);try simp (disch:=(first|omega|(simp only [qI,qJ,qK]<;>omega)|exact qL _)) only [go_sem,↓reduceIte,n0,reduceCtorEq,n1,n2,n3,n4,n5,i0,i1,i2,i3,i4,i5,i6,i7,tlu16])
    all_goals rfl
  repeat ((first | refine qA rfl ?_|apply qB|refine qC rfl ?_|apply qD|apply qE|apply qF|apply qG|apply qH);try simp (disch:=(first|omega|(simp only [qI,qJ,qK]<;>omega)|exact qL _)) only [go_sem,↓reduceIte,n0,reduceCtorEq,n1,n2,n3,n4,n5,i0,i1,i2,i3,i4,i5,i6,i7])
  simp [numS,wrapN,h0,h1,h2,h3,h5]

theorem Usual_step {D : List Fld → Tree → Prop} (fs : List Fld) (g : Tree) (vf : Value) (cg : List Value) (w : World) (hf : FldsV AnyB w vf fs) (hfl : fs.length ≤ 1000) (hg : TreeC AnyB w g cg) (hsm : Small 4611686018427387903 g)
    (hrec : ∀ f ∈ fs,∀ (x : Tree) (vs : Value) (cx : List Value) (w' : World),f.kind = 10 → FldsV AnyB w' vs f.sub → TreeC AnyB w' x cx → Small 4611686018427387903 x → D f.sub x → Fn Tryd.prog 22 #[vs,.agg cx.toArray] w' fun r w'' => r = .bool true ∧ Ext w' w'')
    (hu : g.u = []) (hd : ∀ i (h : i < fs.length),DfF D fs[i] (g.at i)) :
    Fn Tryd.prog 22 #[vf,.agg cg.toArray] w fun r w' => r = .bool true ∧ Ext w w' := by
  obtain ⟨bf,cf,rfl,hcf⟩ := SlR.shape hf
  obtain ⟨gS,gL,gU,rfl,hgn,hgS,hgL,hgU⟩ := hg.inv
  have hl1 := hsm.s
  have hl2 := hsm.l
  have k1 := hgS.flat
  have k2 := SlR.flat hgL
  have k3 := SlR.flat hgU
  obtain ⟨bU,cU,rfl,hcU⟩ := SlR.shape hgU
  have hul : ((g.u.length : Nat) : Int) = 0 := by rw [hu];rfl
  have hE : Ext w (w.alloc (.cells #[.int .i64 g.n,gS,.bool g.null,gL,.slice bU g.u.length cU] 26)) := Upd.alloc (Upd.refl _ _) _
  refine fn_of_W Tryd.func22 rfl Tryd.results22 Tryd.ntmps22 rfl ?_
  repeat ((first | refine qA rfl ?_|apply qB|refine qC rfl ?_|apply qD|apply qE|apply qF|apply qG|apply qH);try simp (disch:=(first|omega|(simp only [qI,qJ,qK]<;>omega)|exact qL _)) only [go_sem,↓reduceIte,n0,reduceCtorEq,n1,n2,n3,n4,n5,i0,i1,i2,i3,i4,i5,i6,i7,k1,k2,k3,hul])
  have hb1 : blk (w.alloc (.cells #[.int .i64 g.n,gS,.bool g.null,gL,.slice bU g.u.length cU] 26)) w.heap.size = some (#[.int .i64 g.n,gS,.bool g.null,gL,.slice bU g.u.length cU],26,(0,0)) := blk_alloc_new rfl
  have hz2 : (w.alloc (.cells #[.int .i64 g.n,gS,.bool g.null,gL,.slice bU g.u.length cU] 26)).heap.size = w.heap.size + 1 := by simp only [World.size_alloc]
  generalize (w.alloc (.cells #[.int .i64 g.n,gS,.bool g.null,gL,.slice bU g.u.length cU] 26)) = w2 at *
  refine W.loop (LoopL [(13,.int .i64 fs.length),(12,.slice bf fs.length cf),(3,.pointer (some ⟨w.heap.size,0,none⟩))] 14 (fun j w' => j ≤ fs.length ∧ Ext w2 w')) (fun ρ _ => fs.length - (RowKit.intOf (ρ 14)).toNat) ?_ ?_
  · exact ⟨(by simp (disch:=(first|omega|(simp only [qI,qJ,qK]<;>omega)|exact qL _)) only [go_sem,↓reduceIte,n0,reduceCtorEq,n1,n2,n3,n4,n5,i0,i1,i2,i3,i4,i5,i6,i7,Holds_nil,Holds_cons]),0,(by simp (disch:=(first|omega|(simp only [qI,qJ,qK]<;>omega)|exact qL _)) only [go_sem,↓reduceIte,n0,reduceCtorEq,n1,n2,n3,n4,n5,i0,i1,i2,i3,i4,i5,i6,i7];all_goals rfl),Nat.zero_le _,Upd.refl _ _⟩
  rintro ρ w3 ⟨⟨h13,h12,h3,-⟩,j,h14,hj,hE3⟩
  have hz3 := hE3.size
  have hE03 : Ext w w3 := hE.trans hE3
  have hb13 := hE3.blk_some hb1 id
  by_cases hlt : j < fs.length
  · skip
    have hdj := hd j hlt
    obtain ⟨_,b,o,x,vs2,hb,hokb,hx,hblt,hxs,hxe,hfl2,hsub2⟩ := FldsV.get hf hlt
    subst hb
    have hx3 : blk w3 b = some x := hE03.blk_some hx id
    have hmem := List.getElem_mem hlt
    generalize fs[j] = f at *
    have hE4 : Ext w3 (wr (w3.alloc (.cells #[.int .i64 0,.int .i64 0,.int .i64 0,.int .i64 0,.int .i64 0,.int .i64 0,.int .i64 0,.slice none 0 0] 46)) w3.heap.size 0 [.int .i64 f.kind,.int .i64 f.fr,.int .i64 f.to,.int .i64 f.null,.int .i64 f.tag,.int .i64 f.df,.int .i64 f.of,vs2]) := (Upd.alloc (Upd.refl _ _) _).wr _ _ (.inl (Nat.le_refl _))
    have hb4 : blk (wr (w3.alloc (.cells #[.int .i64 0,.int .i64 0,.int .i64 0,.int .i64 0,.int .i64 0,.int .i64 0,.int .i64 0,.slice none 0 0] 46)) w3.heap.size 0 [.int .i64 f.kind,.int .i64 f.fr,.int .i64 f.to,.int .i64 f.null,.int .i64 f.tag,.int .i64 f.df,.int .i64 f.of,vs2]) w3.heap.size = some (#[.int .i64 f.kind,.int .i64 f.fr,.int .i64 f.to,.int .i64 f.null,.int .i64 f.tag,.int .i64 f.df,.int .i64 f.of,vs2],46,(0,0)) := by rw [blk_wr_eq,blk_alloc_new rfl];rfl
    have hz4 : (wr (w3.alloc (.cells #[.int .i64 0,.int .i64 0,.int .i64 0,.int .i64 0,.int .i64 0,.int .i64 0,.int .i64 0,.slice none 0 0] 46)) w3.heap.size 0 [.int .i64 f.kind,.int .i64 f.fr,.int .i64 f.to,.int .i64 f.null,.int .i64 f.tag,.int .i64 f.df,.int .i64 f.of,vs2]).heap.size = w3.heap.size + 1 := by simp only [size_wr,World.size_alloc]
    repeat ((first | refine qA rfl ?_|apply qB|refine qC rfl ?_|apply qD|apply qE|apply qF|apply qG|apply qH);try simp (disch:=(first|omega|(simp only [qI,qJ,qK]<;>omega)|exact qL _)) only [go_sem,↓reduceIte,n0,reduceCtorEq,n1,n2,n3,n4,n5,i0,i1,i2,i3,i4,i5,i6,i7,h14,h13,h12,h3,hx3,hxe,hfl2,hb13,cellsAt_five,cellsAt_eight,Int.toNat_natCast])
    generalize (wr (w3.alloc (.cells #[.int .i64 0,.int .i64 0,.int .i64 0,.int .i64 0,.int .i64 0,.int .i64 0,.int .i64 0,.slice none 0 0] 46)) w3.heap.size 0 [.int .i64 f.kind,.int .i64 f.fr,.int .i64 f.to,.int .i64 f.null,.int .i64 f.tag,.int .i64 f.df,.int .i64 f.of,vs2]) = w4 at *
    have hE04 := hE03.trans hE4
    refine (at_fn (ok := AnyB) g j _ w4 (hg.keep (Ext.keeps hE04 _)) (by omega) (by omega)).mono ?_
    rintro _ w5 ⟨⟨c5,rfl,hc5⟩,hE5⟩
    have hsx : Small 4611686018427387903 (g.at j) := hsm.at j
    generalize g.at j = y at *
    obtain ⟨xS,xL,xU,rfl,hxn,hxS,hxL,hxU⟩ := hc5.inv
    have m1 := hxS.flat
    have m2 := SlR.flat hxL
    have m3 := SlR.flat hxU
    have hz5 := hE5.size
    have hb45 := hE5.blk_some hb4 id
    have hE05 := hE04.trans hE5
    have hys := hsx.s
    have hyl := hsx.l
    obtain ⟨bS,cS,rfl,hcS⟩ := hxS.shape
    obtain ⟨bL,cL,rfl,hcL⟩ := SlR.shape hxL
    have hE6 : Ext w5 (wr (w5.alloc (.cells #[.int .i64 0,.slice none 0 0,.bool false,.slice none 0 0,.slice none 0 0] 26)) w5.heap.size 0 [.int .i64 y.n,.slice bS y.s.length cS,.bool y.null,.slice bL y.l.length cL,xU]) := (Upd.alloc (Upd.refl _ _) _).wr _ _ (.inl (Nat.le_refl _))
    have hb6 : blk (wr (w5.alloc (.cells #[.int .i64 0,.slice none 0 0,.bool false,.slice none 0 0,.slice none 0 0] 26)) w5.heap.size 0 [.int .i64 y.n,.slice bS y.s.length cS,.bool y.null,.slice bL y.l.length cL,xU]) w5.heap.size = some (#[.int .i64 y.n,.slice bS y.s.length cS,.bool y.null,.slice bL y.l.length cL,xU],26,(0,0)) := by rw [blk_wr_eq,blk_alloc_new rfl];rfl
    have hz6 : (wr (w5.alloc (.cells #[.int .i64 0,.slice none 0 0,.bool false,.slice none 0 0,.slice none 0 0] 26)) w5.heap.size 0 [.int .i64 y.n,.slice bS y.s.length cS,.bool y.null,.slice bL y.l.length cL,xU]).heap.size = w5.heap.size + 1 := by simp only [size_wr,World.size_alloc]
    try simp (disch:=(first|omega|(simp only [qI,qJ,qK]<;>omega)|exact qL _)) only [go_sem,↓reduceIte,n0,reduceCtorEq,n1,n2,n3,n4,n5,i0,i1,i2,i3,i4,i5,i6,i7,m1,m2,m3]
    generalize (wr (w5.alloc (.cells #[.int .i64 0,.slice none 0 0,.bool false,.slice none 0 0,.slice none 0 0] 26)) w5.heap.size 0 [.int .i64 y.n,.slice bS y.s.length cS,.bool y.null,.slice bL y.l.length cL,xU]) = w6 at *
    have hb46 := hE6.blk_some hb45 id
    have hE26 : Ext w2 w6 := ((hE3.trans hE4).trans hE5).trans hE6
    have hE06 := hE05.trans hE6
    have hsub6 := hsub2.keep (Ext.keeps hE06 _)
    have hc6 := hc5.keep (Ext.keeps hE6 _)
    unfold DfF at hdj
    by_cases h8 : f.kind = 8
    · skip
      rw [if_pos h8] at hdj
      obtain ⟨hn8,hs8⟩ := hdj
      have hsl : ((y.s.length : Nat) : Int) = 0 := by rw [hs8];rfl
      by_cases hnl : 0 ≤ f.null
      · skip
        have hn9 : y.null = true := by rw [hn8];simp;omega
        repeat ((first | refine qA rfl ?_|apply qB|refine qC rfl ?_|apply qD|apply qE|apply qF|apply qG|apply qH);try simp (disch:=(first|omega|(simp only [qI,qJ,qK]<;>omega)|exact qL _)) only [go_sem,↓reduceIte,n0,reduceCtorEq,n1,n2,n3,n4,n5,i0,i1,i2,i3,i4,i5,i6,i7,hb46,hb6,hn9,hsl,h14,beq_self_eq_true,bne_self_eq_false,ne_eq,not_true_eq_false,not_false_eq_true])
        refine ⟨⟨(by simp (disch:=(first|omega|(simp only [qI,qJ,qK]<;>omega)|exact qL _)) only [go_sem,↓reduceIte,n0,reduceCtorEq,n1,n2,n3,n4,n5,i0,i1,i2,i3,i4,i5,i6,i7,Holds_nil,Holds_cons,h13,h12,h3]),j + 1,(by simp (disch:=(first|omega|(simp only [qI,qJ,qK]<;>omega)|exact qL _)) only [go_sem,↓reduceIte,n0,reduceCtorEq,n1,n2,n3,n4,n5,i0,i1,i2,i3,i4,i5,i6,i7,h14];all_goals rfl),by omega,hE26⟩,?_⟩
        try simp (disch:=(first|omega|(simp only [qI,qJ,qK]<;>omega)|exact qL _)) only [go_sem,↓reduceIte,n0,reduceCtorEq,n1,n2,n3,n4,n5,i0,i1,i2,i3,i4,i5,i6,i7,h14]
        simp only [RowKit.intOf]
        omega
      · skip
        have hn9 : y.null = false := by rw [hn8];simp;omega
        repeat ((first | refine qA rfl ?_|apply qB|refine qC rfl ?_|apply qD|apply qE|apply qF|apply qG|apply qH);try simp (disch:=(first|omega|(simp only [qI,qJ,qK]<;>omega)|exact qL _)) only [go_sem,↓reduceIte,n0,reduceCtorEq,n1,n2,n3,n4,n5,i0,i1,i2,i3,i4,i5,i6,i7,hb46,hb6,hn9,hsl,h14,beq_self_eq_true,bne_self_eq_false,ne_eq,not_true_eq_false,not_false_eq_true])
        refine ⟨⟨(by simp (disch:=(first|omega|(simp only [qI,qJ,qK]<;>omega)|exact qL _)) only [go_sem,↓reduceIte,n0,reduceCtorEq,n1,n2,n3,n4,n5,i0,i1,i2,i3,i4,i5,i6,i7,Holds_nil,Holds_cons,h13,h12,h3]),j + 1,(by simp (disch:=(first|omega|(simp only [qI,qJ,qK]<;>omega)|exact qL _)) only [go_sem,↓reduceIte,n0,reduceCtorEq,n1,n2,n3,n4,n5,i0,i1,i2,i3,i4,i5,i6,i7,h14];all_goals rfl),by omega,hE26⟩,?_⟩
        try simp (disch:=(first|omega|(simp only [qI,qJ,qK]<;>omega)|exact qL _)) only [go_sem,↓reduceIte,n0,reduceCtorEq,n1,n2,n3,n4,n5,i0,i1,i2,i3,i4,i5,i6,i7,h14]
        simp only [RowKit.intOf]
        omega
    rw [if_neg h8] at hdj
    by_cases h7 : f.kind = 7
    · skip
      rw [if_pos h7] at hdj
      repeat ((first | refine qA rfl ?_|apply qB|refine qC rfl ?_|apply qD|apply qE|apply qF|apply qG|apply qH);try simp (disch:=(first|omega|(simp only [qI,qJ,qK]<;>omega)|exact qL _)) only [go_sem,↓reduceIte,n0,reduceCtorEq,n1,n2,n3,n4,n5,i0,i1,i2,i3,i4,i5,i6,i7,hb46,hb6])
      refine W.drawR (.take 0 (.take 1 (.only 2 (.only 3 (.take 4 .done))))) NoB mixed (by kernel_rfl) ?_
      try simp (disch:=(first|omega|(simp only [qI,qJ,qK]<;>omega)|exact qL _)) only [go_sem,↓reduceIte,n0,reduceCtorEq,n1,n2,n3,n4,n5,i0,i1,i2,i3,i4,i5,i6,i7,hb6]
      have hEd : Ext w6 w6.drew := (Upd.refl _ _).drew
      have hyd : BytesV AnyB w6.drew (.slice bS y.s.length cS) (uuidS []) := by
        have h := (hxS.keep (Ext.keeps hE6 _)).keep (Ext.keeps hEd _)
        rw [hdj] at h ⊢
        exact h
      have hE2d := hE26.trans hEd
      generalize w6.drew = w7 at *
      refine wp_make (T := 22) (E := 5) (size := 1) (bytes := 1) (z := .int .u8 0) (by kernel_rfl) (by kernel_rfl) (kl := .i64) (kc := .i64) (l := 16) (c := 16) (by first | rfl | (simp (disch:=(first|omega|(simp only [qI,qJ,qK]<;>omega)|exact qL _)) only [go_sem,↓reduceIte,n0,reduceCtorEq,n1,n2,n3,n4,n5,i0,i1,i2,i3,i4,i5,i6,i7];rfl)) (by first | rfl | (simp (disch:=(first|omega|(simp only [qI,qJ,qK]<;>omega)|exact qL _)) only [go_sem,↓reduceIte,n0,reduceCtorEq,n1,n2,n3,n4,n5,i0,i1,i2,i3,i4,i5,i6,i7];rfl)) (by omega) (by omega) (by omega) ?_
      rw [show (Value.int .u8 0).cells = #[Value.int .u8 0] from rfl,made_one]
      have hE8 : Ext w7 (w7.alloc (.cells (List.replicate (16 * 1) (Value.int .u8 0)).toArray 5)) := Upd.alloc (Upd.refl _ _) _
      have hv8 : BytesV AnyB (w7.alloc (.cells (List.replicate (16 * 1) (Value.int .u8 0)).toArray 5)) (.slice (some ⟨w7.heap.size,0,none⟩) 16 16) (uuidS []) := bytes_at (blk_alloc_new rfl) rfl fun i hi => by simp only [Nat.zero_add,List.getElem?_toArray];rfl
      try simp (disch:=(first|omega|(simp only [qI,qJ,qK]<;>omega)|exact qL _)) only [go_sem,↓reduceIte,n0,reduceCtorEq,n1,n2,n3,n4,n5,i0,i1,i2,i3,i4,i5,i6,i7]
      generalize (w7.alloc (.cells (List.replicate (16 * 1) (Value.int .u8 0)).toArray 5)) = w8 at *
      refine ⟨hE8,?_⟩
      try simp (disch:=(first|omega|(simp only [qI,qJ,qK]<;>omega)|exact qL _)) only [go_sem,↓reduceIte,n0,reduceCtorEq,n1,n2,n3,n4,n5,i0,i1,i2,i3,i4,i5,i6,i7]
      refine (Same_fn (ok := AnyB) (uuidS []) (uuidS []) _ _ w8 (hyd.keep (Ext.keeps hE8 _)) hv8 (by decide)).mono ?_
      rintro _ w9 ⟨rfl,hE9⟩
      have hsame : decide (uuidS [] = uuidS []) = true := decide_eq_true rfl
      have hE79 := hE8.trans hE9
      refine ⟨hE79,?_⟩
      try simp (disch:=(first|omega|(simp only [qI,qJ,qK]<;>omega)|exact qL _)) only [go_sem,↓reduceIte,n0,reduceCtorEq,n1,n2,n3,n4,n5,i0,i1,i2,i3,i4,i5,i6,i7,hsame]
      repeat ((first | refine qA rfl ?_|apply qB|refine qC rfl ?_|apply qD|apply qE|apply qF|apply qG|apply qH);try simp (disch:=(first|omega|(simp only [qI,qJ,qK]<;>omega)|exact qL _)) only [go_sem,↓reduceIte,n0,reduceCtorEq,n1,n2,n3,n4,n5,i0,i1,i2,i3,i4,i5,i6,i7,hsame,h14])
      refine ⟨⟨(by simp (disch:=(first|omega|(simp only [qI,qJ,qK]<;>omega)|exact qL _)) only [go_sem,↓reduceIte,n0,reduceCtorEq,n1,n2,n3,n4,n5,i0,i1,i2,i3,i4,i5,i6,i7,Holds_nil,Holds_cons,h13,h12,h3]),j + 1,(by simp (disch:=(first|omega|(simp only [qI,qJ,qK]<;>omega)|exact qL _)) only [go_sem,↓reduceIte,n0,reduceCtorEq,n1,n2,n3,n4,n5,i0,i1,i2,i3,i4,i5,i6,i7,h14];all_goals rfl),by omega,hE2d.trans hE79⟩,?_⟩
      try simp (disch:=(first|omega|(simp only [qI,qJ,qK]<;>omega)|exact qL _)) only [go_sem,↓reduceIte,n0,reduceCtorEq,n1,n2,n3,n4,n5,i0,i1,i2,i3,i4,i5,i6,i7,h14]
      simp only [RowKit.intOf]
      omega
    rw [if_neg h7] at hdj
    by_cases h9 : f.kind = 9
    · skip
      rw [if_pos (by omega)] at hdj
      have hsl : ((y.s.length : Nat) : Int) = 0 := by rw [hdj.1];rfl
      have hll : ((y.l.length : Nat) : Int) = 0 := by rw [hdj.2];rfl
      repeat ((first | refine qA rfl ?_|apply qB|refine qC rfl ?_|apply qD|apply qE|apply qF|apply qG|apply qH);try simp (disch:=(first|omega|(simp only [qI,qJ,qK]<;>omega)|exact qL _)) only [go_sem,↓reduceIte,n0,reduceCtorEq,n1,n2,n3,n4,n5,i0,i1,i2,i3,i4,i5,i6,i7,hb46,hb6,hsl,hll,h14])
      refine ⟨⟨(by simp (disch:=(first|omega|(simp only [qI,qJ,qK]<;>omega)|exact qL _)) only [go_sem,↓reduceIte,n0,reduceCtorEq,n1,n2,n3,n4,n5,i0,i1,i2,i3,i4,i5,i6,i7,Holds_nil,Holds_cons,h13,h12,h3]),j + 1,(by simp (disch:=(first|omega|(simp only [qI,qJ,qK]<;>omega)|exact qL _)) only [go_sem,↓reduceIte,n0,reduceCtorEq,n1,n2,n3,n4,n5,i0,i1,i2,i3,i4,i5,i6,i7,h14];all_goals rfl),by omega,hE26⟩,?_⟩
      try simp (disch:=(first|omega|(simp only [qI,qJ,qK]<;>omega)|exact qL _)) only [go_sem,↓reduceIte,n0,reduceCtorEq,n1,n2,n3,n4,n5,i0,i1,i2,i3,i4,i5,i6,i7,h14]
      simp only [RowKit.intOf]
      omega
    by_cases h11 : f.kind = 11
    · skip
      rw [if_pos (by omega)] at hdj
      have hsl : ((y.s.length : Nat) : Int) = 0 := by rw [hdj.1];rfl
      have hll : ((y.l.length : Nat) : Int) = 0 := by rw [hdj.2];rfl
      repeat ((first | refine qA rfl ?_|apply qB|refine qC rfl ?_|apply qD|apply qE|apply qF|apply qG|apply qH);try simp (disch:=(first|omega|(simp only [qI,qJ,qK]<;>omega)|exact qL _)) only [go_sem,↓reduceIte,n0,reduceCtorEq,n1,n2,n3,n4,n5,i0,i1,i2,i3,i4,i5,i6,i7,hb46,hb6,hsl,hll,h14])
      refine ⟨⟨(by simp (disch:=(first|omega|(simp only [qI,qJ,qK]<;>omega)|exact qL _)) only [go_sem,↓reduceIte,n0,reduceCtorEq,n1,n2,n3,n4,n5,i0,i1,i2,i3,i4,i5,i6,i7,Holds_nil,Holds_cons,h13,h12,h3]),j + 1,(by simp (disch:=(first|omega|(simp only [qI,qJ,qK]<;>omega)|exact qL _)) only [go_sem,↓reduceIte,n0,reduceCtorEq,n1,n2,n3,n4,n5,i0,i1,i2,i3,i4,i5,i6,i7,h14];all_goals rfl),by omega,hE26⟩,?_⟩
      try simp (disch:=(first|omega|(simp only [qI,qJ,qK]<;>omega)|exact qL _)) only [go_sem,↓reduceIte,n0,reduceCtorEq,n1,n2,n3,n4,n5,i0,i1,i2,i3,i4,i5,i6,i7,h14]
      simp only [RowKit.intOf]
      omega
    rw [if_neg (by omega)] at hdj
    by_cases h10 : f.kind = 10
    · skip
      rw [if_pos h10] at hdj
      by_cases hnl : 0 ≤ f.null
      · skip
        have hn9 : y.null = true := hdj.1 hnl
        repeat ((first | refine qA rfl ?_|apply qB|refine qC rfl ?_|apply qD|apply qE|apply qF|apply qG|apply qH);try simp (disch:=(first|omega|(simp only [qI,qJ,qK]<;>omega)|exact qL _)) only [go_sem,↓reduceIte,n0,reduceCtorEq,n1,n2,n3,n4,n5,i0,i1,i2,i3,i4,i5,i6,i7,hb46,hb6,hn9,h14])
        refine ⟨⟨(by simp (disch:=(first|omega|(simp only [qI,qJ,qK]<;>omega)|exact qL _)) only [go_sem,↓reduceIte,n0,reduceCtorEq,n1,n2,n3,n4,n5,i0,i1,i2,i3,i4,i5,i6,i7,Holds_nil,Holds_cons,h13,h12,h3]),j + 1,(by simp (disch:=(first|omega|(simp only [qI,qJ,qK]<;>omega)|exact qL _)) only [go_sem,↓reduceIte,n0,reduceCtorEq,n1,n2,n3,n4,n5,i0,i1,i2,i3,i4,i5,i6,i7,h14];all_goals rfl),by omega,hE26⟩,?_⟩
        try simp (disch:=(first|omega|(simp only [qI,qJ,qK]<;>omega)|exact qL _)) only [go_sem,↓reduceIte,n0,reduceCtorEq,n1,n2,n3,n4,n5,i0,i1,i2,i3,i4,i5,i6,i7,h14]
        simp only [RowKit.intOf]
        omega
      repeat ((first | refine qA rfl ?_|apply qB|refine qC rfl ?_|apply qD|apply qE|apply qF|apply qG|apply qH);try simp (disch:=(first|omega|(simp only [qI,qJ,qK]<;>omega)|exact qL _)) only [go_sem,↓reduceIte,n0,reduceCtorEq,n1,n2,n3,n4,n5,i0,i1,i2,i3,i4,i5,i6,i7,hb46,hb6,hfl2,cellsAt_five])
      refine (hrec f hmem y vs2 _ w6 h10 hsub6 hc6 hsx (hdj.2 (by omega))).mono ?_
      rintro _ w9 ⟨rfl,hE9⟩
      try simp (disch:=(first|omega|(simp only [qI,qJ,qK]<;>omega)|exact qL _)) only [go_sem,↓reduceIte,n0,reduceCtorEq,n1,n2,n3,n4,n5,i0,i1,i2,i3,i4,i5,i6,i7]
      repeat ((first | refine qA rfl ?_|apply qB|refine qC rfl ?_|apply qD|apply qE|apply qF|apply qG|apply qH);try simp (disch:=(first|omega|(simp only [qI,qJ,qK]<;>omega)|exact qL _)) only [go_sem,↓reduceIte,n0,reduceCtorEq,n1,n2,n3,n4,n5,i0,i1,i2,i3,i4,i5,i6,i7,h14])
      refine ⟨⟨(by simp (disch:=(first|omega|(simp only [qI,qJ,qK]<;>omega)|exact qL _)) only [go_sem,↓reduceIte,n0,reduceCtorEq,n1,n2,n3,n4,n5,i0,i1,i2,i3,i4,i5,i6,i7,Holds_nil,Holds_cons,h13,h12,h3]),j + 1,(by simp (disch:=(first|omega|(simp only [qI,qJ,qK]<;>omega)|exact qL _)) only [go_sem,↓reduceIte,n0,reduceCtorEq,n1,n2,n3,n4,n5,i0,i1,i2,i3,i4,i5,i6,i7,h14];all_goals rfl),by omega,hE26.trans hE9⟩,?_⟩
      try simp (disch:=(first|omega|(simp only [qI,qJ,qK]<;>omega)|exact qL _)) only [go_sem,↓reduceIte,n0,reduceCtorEq,n1,n2,n3,n4,n5,i0,i1,i2,i3,i4,i5,i6,i7,h14]
      simp only [RowKit.intOf]
      omega
    rw [if_neg h10] at hdj
    repeat ((first | refine qA rfl ?_|apply qB|refine qC rfl ?_|apply qD|apply qE|apply qF|apply qG|apply qH);try simp (disch:=(first|omega|(simp only [qI,qJ,qK]<;>omega)|exact qL _)) only [go_sem,↓reduceIte,n0,reduceCtorEq,n1,n2,n3,n4,n5,i0,i1,i2,i3,i4,i5,i6,i7,hb46,hb6])
    refine W.drawR (.take 0 (.take 1 (.take 2 (.take 3 (.take 4 (.take 5 (.only 6 (.take 7 .done)))))))) NoB mixed (by kernel_rfl) ?_
    try simp (disch:=(first|omega|(simp only [qI,qJ,qK]<;>omega)|exact qL _)) only [go_sem,↓reduceIte,n0,reduceCtorEq,n1,n2,n3,n4,n5,i0,i1,i2,i3,i4,i5,i6,i7,hb46,hb6]
    have hEd : Ext w6 w6.drew := (Upd.refl _ _).drew
    have hE2d := hE26.trans hEd
    generalize w6.drew = w7 at *
    refine (number_fn f.kind f.df w7).mono ?_
    rintro _ _ ⟨rfl,rfl⟩
    refine ⟨Upd.refl _ _,?_⟩
    try simp (disch:=(first|omega|(simp only [qI,qJ,qK]<;>omega)|exact qL _)) only [go_sem,↓reduceIte,n0,reduceCtorEq,n1,n2,n3,n4,n5,i0,i1,i2,i3,i4,i5,i6,i7,hdj,beq_self_eq_true,bne_self_eq_false,ne_eq,not_true_eq_false,not_false_eq_true]
    repeat ((first | refine qA rfl ?_|apply qB|refine qC rfl ?_|apply qD|apply qE|apply qF|apply qG|apply qH);try simp (disch:=(first|omega|(simp only [qI,qJ,qK]<;>omega)|exact qL _)) only [go_sem,↓reduceIte,n0,reduceCtorEq,n1,n2,n3,n4,n5,i0,i1,i2,i3,i4,i5,i6,i7,hdj,h14,beq_self_eq_true,bne_self_eq_false,ne_eq,not_true_eq_false,not_false_eq_true])
    refine ⟨⟨(by simp (disch:=(first|omega|(simp only [qI,qJ,qK]<;>omega)|exact qL _)) only [go_sem,↓reduceIte,n0,reduceCtorEq,n1,n2,n3,n4,n5,i0,i1,i2,i3,i4,i5,i6,i7,Holds_nil,Holds_cons,h13,h12,h3]),j + 1,(by simp (disch:=(first|omega|(simp only [qI,qJ,qK]<;>omega)|exact qL _)) only [go_sem,↓reduceIte,n0,reduceCtorEq,n1,n2,n3,n4,n5,i0,i1,i2,i3,i4,i5,i6,i7,h14];all_goals rfl),by omega,hE2d⟩,?_⟩
    try simp (disch:=(first|omega|(simp only [qI,qJ,qK]<;>omega)|exact qL _)) only [go_sem,↓reduceIte,n0,reduceCtorEq,n1,n2,n3,n4,n5,i0,i1,i2,i3,i4,i5,i6,i7,h14]
    simp only [RowKit.intOf]
    omega
  repeat ((first | refine qA rfl ?_|apply qB|refine qC rfl ?_|apply qD|apply qE|apply qF|apply qG|apply qH);try simp (disch:=(first|omega|(simp only [qI,qJ,qK]<;>omega)|exact qL _)) only [go_sem,↓reduceIte,n0,reduceCtorEq,n1,n2,n3,n4,n5,i0,i1,i2,i3,i4,i5,i6,i7,h14,h13])
  exact hE03

theorem okF_one {d : Nat} {fs : List Fld} (h : okF d fs = true) {f : Fld} (hf : f ∈ fs) : okF d [f] = true := by
  obtain ⟨e,rfl,hB,hok⟩ := okF_el h hf
  simp only [okF,List.all_cons,List.all_nil,Bool.and_true,Bool.and_eq_true,hok,and_true]
  exact ⟨rfl,decide_eq_true hB⟩

theorem Usual_fn : ∀ (d : Nat) (fs : List Fld) (g : Tree) (vf : Value) (cg : List Value) (w : World),FldsV AnyB w vf fs → okF d fs = true → TreeC AnyB w g cg → Small 4611686018427387903 g → DfP (d + 1) fs g →
    Fn Tryd.prog 22 #[vf,.agg cg.toArray] w fun r w' => r = .bool true ∧ Ext w w' := by
  intro d
  induction d with
  | zero =>
    intro fs g vf cg w hf hok hg hsm hd
    have hnil : fs = [] := by simpa [okF] using hok
    subst hnil
    exact Usual_step [] g vf cg w hf (by simp) hg hsm (fun _ h => by cases h) hd.1 hd.2
  | succ d ih =>
    intro fs g vf cg w hf hok hg hsm hd
    refine Usual_step (D := DfP (d + 1)) fs g vf cg w hf (okF_len hok) hg hsm (fun f hm x vs cx w' _ h1 h2 h3 h4 => ?_) hd.1 hd.2
    obtain ⟨e,he,hB,hok'⟩ := okF_el hok hm
    cases he
    exact ih f.sub x vs cx w' h1 hok' h2 h3 h4

end Ms

