/- A part of the proof: see the last text. -/
import Derived.Test.YthekgkekchicgaaDoorC06
set_option linter.unusedSimpArgs false
set_option linter.unusedVariables false
namespace Ms
open Go

def Shr {α : Type} (r : St → α × St) : Prop := ∀ st,stLen (r st).2 ≤ stLen st
theorem stLen_none : stLen none = 0 := rfl
theorem stLen_some (s : List UInt8) : stLen (some s) = s.length := rfl
theorem rdN_shr (n : Nat) : Shr (rdN n) := fun st => by
  cases st with
  | none => exact Nat.le_refl _
  | some s =>
    unfold rdN;simp only
    split
    · simp [stLen]
    · simp [stLen]
theorem rdInt_shr (k : IntKind) (n : Nat) : Shr (rdInt k n) := rdN_shr n
theorem rdUv_shr : Shr rdUv := fun st => by
  cases st with
  | none => exact Nat.le_refl _
  | some s =>
    unfold rdUv;simp only
    split
    · rename_i x hx
      have := (uvD_some hx).1
      simp only [stLen_some];omega
    · simp [stLen]
theorem rdUv_less {s : List UInt8} (h : (rdUv (some s)).2 ≠ none) : stLen (rdUv (some s)).2 + 1 ≤ s.length := by
  unfold rdUv at h ⊢;simp only at h ⊢
  split
  · rename_i x hx
    have := (uvD_some hx).1
    simp only [stLen_some];omega
  · rename_i hx;rw [hx] at h;simp at h
theorem rdUv_fail {s : List UInt8} (h : (rdUv (some s)).2 = none) : (rdUv (some s)).1 = 0 := by
  unfold rdUv at h ⊢;simp only at h ⊢
  split
  · rename_i x hx;rw [hx] at h;simp at h
  · rfl
theorem rdSpan_shr (l : Int) : Shr (rdSpan l) := fun st => by
  cases st with
  | none => exact Nat.le_refl _
  | some s =>
    unfold rdSpan;simp only
    split
    · simp [stLen]
    · simp [stLen]
theorem rdSpan_len (l : Int) (st : St) : (rdSpan l st).1.length ≤ stLen st := by
  cases st with
  | none => simp [rdSpan]
  | some s =>
    unfold rdSpan;simp only
    split
    · simp [stLen];omega
    · simp
theorem rdLen_shr (flex : Bool) (k : IntKind) (n : Nat) : Shr (rdLen flex k n) := fun st => by
  unfold rdLen;split
  · exact rdUv_shr st
  · exact rdInt_shr k n st
theorem rdStr_shr (flex : Bool) : Shr (rdStr flex) := fun st => Nat.le_trans (rdSpan_shr _ _) (rdLen_shr flex _ _ st)
theorem rdStr_len (flex : Bool) (st : St) : (rdStr flex st).1.length ≤ stLen st := Nat.le_trans (rdSpan_len _ _) (rdLen_shr flex _ _ st)
theorem rdOct_shr (flex : Bool) : Shr (rdOct flex) := fun st => Nat.le_trans (rdSpan_shr _ _) (rdLen_shr flex _ _ st)
theorem rdOct_len (flex : Bool) (st : St) : (rdOct flex st).1.length ≤ stLen st := Nat.le_trans (rdSpan_len _ _) (rdLen_shr flex _ _ st)
theorem rdNStr_shr (flex : Bool) : Shr (rdNStr flex) := fun st => by
  unfold rdNStr;split
  · exact rdLen_shr flex _ _ st
  · exact rdStr_shr flex st
theorem rdNStr_len (flex : Bool) (st : St) : (rdNStr flex st).1.2.length ≤ stLen st := by
  unfold rdNStr;split
  · simp
  · exact rdStr_len flex st
theorem rdBytes_shr (flex : Bool) : Shr (rdBytes flex) := fun st => by
  unfold rdBytes;split
  · exact rdLen_shr flex _ _ st
  · exact rdOct_shr flex st
theorem rdBytes_len (flex : Bool) (st : St) : (rdBytes flex st).1.2.length ≤ stLen st := by
  unfold rdBytes;split
  · simp
  · exact rdOct_len flex st
theorem rdNBytes_shr (flex : Bool) : Shr (rdNBytes flex) := fun st => by
  unfold rdNBytes;split
  · exact rdLen_shr flex _ _ st
  · exact rdOct_shr flex st
theorem rdNBytes_len (flex : Bool) (st : St) : (rdNBytes flex st).1.2.length ≤ stLen st := by
  unfold rdNBytes;split
  · simp
  · exact rdOct_len flex st
theorem rdCnt_shr (flex : Bool) : Shr (rdCnt flex) := fun st => by
  unfold rdCnt;split
  · exact rdUv_shr st
  · exact rdInt_shr _ _ st
theorem rdALen_shr (flex : Bool) : Shr (rdALen flex) := fun st => by
  unfold rdALen;split
  · simp [stLen]
  · exact rdCnt_shr flex st
theorem rdALen_len (flex : Bool) (st : St) : (rdALen flex st).1.toNat ≤ stLen st := by
  have := rdCnt_shr flex st
  unfold rdALen;split
  · simp
  · omega
theorem rdTag_shr (u : List TagD) : Shr (rdTag u) := fun st => Nat.le_trans (rdSpan_shr _ _) (Nat.le_trans (rdUv_shr _) (rdUv_shr st))
theorem rdTagsN_shr : ∀ (n : Nat) (u : List TagD),Shr (rdTagsN n u)
  | 0,_ => fun st => Nat.le_refl _
  | n + 1,u => fun st => Nat.le_trans (rdTagsN_shr n _ _) (rdTag_shr u st)
theorem rdTags_shr : Shr rdTags := fun st => Nat.le_trans (rdTagsN_shr _ _ _) (rdUv_shr st)
theorem rdMany_shr {r : St → Tree × St} (h : Shr r) : ∀ n,Shr (rdMany r n)
  | 0 => fun st => Nat.le_refl _
  | n + 1 => fun st => Nat.le_trans (rdMany_shr h n _) (h st)
theorem rd1_shr {pt : List Fld → St → Tree × St} (h : ∀ sub,Shr (pt sub)) (k : Int) (sub : List Fld) (may flex : Bool) : Shr (rd1 pt k sub may flex) := fun st => by
  unfold rd1
  split
  · exact rdN_shr _ st
  · split
    · exact rdSpan_shr _ st
    · split
      · split
        · exact rdNStr_shr flex st
        · exact rdStr_shr flex st
      · split
        · split
          · exact rdNBytes_shr flex st
          · exact rdBytes_shr flex st
        · split
          · exact h sub st
          · exact rdInt_shr (kindK k) (widthS k) st
theorem rdF_shr {pt : List Fld → St → Tree × St} (h : ∀ sub,Shr (pt sub)) (v : Int) (flex : Bool) (f : Fld) : Shr (rdF pt v flex f) := fun st => by
  unfold rdF
  split
  · exact Nat.le_trans (rdMany_shr (rd1_shr h _ _ _ _) _ _) (rdALen_shr flex st)
  · exact rd1_shr h _ _ _ _ st
theorem rdL_shr {pt : List Fld → St → Tree × St} {dp : List Fld → Tree} (h : ∀ sub,Shr (pt sub)) (v : Int) (flex : Bool) : ∀ fs,Shr (rdL pt dp v flex fs)
  | [] => fun st => Nat.le_refl _
  | f :: fs => fun st => by
    rw [rdL]
    split
    · exact Nat.le_trans (rdL_shr h v flex fs _) (rdF_shr h v flex f st)
    · exact rdL_shr h v flex fs st
theorem rdP_shr (v : Int) (flex : Bool) : ∀ d fs,Shr (rdP d v flex fs)
  | 0,_ => fun st => Nat.le_refl _
  | d + 1,fs => fun st => by
    rw [rdP]
    split
    · exact Nat.le_trans (rdTags_shr _) (rdL_shr (rdP_shr v flex d) v flex fs st)
    · exact rdL_shr (rdP_shr v flex d) v flex fs st

/-! ### The tags -/
theorem tagPut_len (u : List TagD) (y : TagD) : (tagPut u y).length ≤ u.length + 1 := by
  unfold tagPut;split <;> simp
theorem tagPut_has {u : List TagD} {y : TagD} (h : u.any (fun x => x.1 == y.1) = true) : (tagPut u y).length = u.length ∧ (tagPut u y).any (fun x => x.1 == y.1) = true := by
  unfold tagPut
  rw [if_pos h]
  refine ⟨by simp,?_⟩
  rw [List.any_eq_true] at h ⊢
  obtain ⟨x,hx,he⟩ := h
  refine ⟨y,List.mem_map.2 ⟨x,hx,by rw [if_pos (by simpa using he)]⟩,by simp⟩
theorem tagPut_any (u : List TagD) (y : TagD) : (tagPut u y).any (fun x => x.1 == y.1) = true := by
  by_cases h : u.any (fun x => x.1 == y.1) = true
  · exact (tagPut_has h).2
  · unfold tagPut;rw [if_neg h];simp
theorem rdTagsN_dead : ∀ (n : Nat) (u : List TagD),u.any (fun x => x.1 == 0) = true → (rdTagsN n u none).1.length = u.length
  | 0,_,_ => rfl
  | n + 1,u,h => by
    have := tagPut_has (u := u) (y := (0,[])) h
    rw [rdTagsN,show rdTag u none = (tagPut u (0,[]),none) from rfl]
    rw [rdTagsN_dead n _ this.2,this.1]
theorem rdTagsN_len : ∀ (n : Nat) (u : List TagD) (st : St),(rdTagsN n u st).1.length ≤ u.length + stLen st + 1
  | 0,u,st => by simp only [rdTagsN];omega
  | n + 1,u,none => by
    rw [rdTagsN,show rdTag u none = (tagPut u (0,[]),none) from rfl,rdTagsN_dead n _ (tagPut_any u (0,[]))]
    have := tagPut_len u (0,[])
    omega
  | n + 1,u,some s => by
    rw [rdTagsN]
    by_cases hk : (rdUv (some s)).2 = none
    · have h1 : rdTag u (some s) = (tagPut u (0,[]),none) := by
        unfold rdTag;rw [hk,rdUv_fail hk];rfl
      rw [h1,rdTagsN_dead n _ (tagPut_any u (0,[]))]
      have := tagPut_len u (0,[])
      omega
    · have ih := rdTagsN_len n (rdTag u (some s)).1 (rdTag u (some s)).2
      have h2 : stLen (rdTag u (some s)).2 + 1 ≤ s.length := Nat.le_trans (Nat.succ_le_succ (Nat.le_trans (rdSpan_shr _ _) (rdUv_shr _))) (rdUv_less hk)
      have h3 : (rdTag u (some s)).1.length ≤ u.length + 1 := tagPut_len _ _
      rw [stLen_some]
      omega
theorem rdTagsN_good : ∀ (n : Nat) (u : List TagD) (st : St) (M : Nat),stLen st ≤ M → (u.map (·.1)).Nodup → (∀ y ∈ u,y.2.length ≤ M) → ((rdTagsN n u st).1.map (·.1)).Nodup ∧ ∀ y ∈ (rdTagsN n u st).1,y.2.length ≤ M
  | 0,_,_,_,_,h1,h2 => ⟨h1,h2⟩
  | n + 1,u,st,M,hM,h1,h2 => by
    rw [rdTagsN]
    refine rdTagsN_good n _ _ M (Nat.le_trans (rdTag_shr u st) hM) (tagPut_keys _ _ h1) fun y hy => ?_
    have hl : (rdSpan (rdUv (rdUv st).2).1 (rdUv (rdUv st).2).2).1.length ≤ M := Nat.le_trans (rdSpan_len _ _) (Nat.le_trans (rdUv_shr _) (Nat.le_trans (rdUv_shr _) hM))
    unfold rdTag tagPut at hy
    simp only at hy
    split at hy
    · obtain ⟨x,hx,rfl⟩ := List.mem_map.1 hy
      split
      · exact hl
      · exact h2 x hx
    · rcases List.mem_append.1 hy with hy | hy
      · exact h2 y hy
      · simp only [List.mem_singleton] at hy;subst hy;exact hl
theorem rdTags_good {st : St} (h : stLen st ≤ 32766) : GoodU (rdTags st).1 := by
  have h1 := rdUv_shr st
  have h2 := rdTagsN_len (rdUv st).1 [] (rdUv st).2
  have h3 := rdTagsN_good (rdUv st).1 [] (rdUv st).2 32766 (Nat.le_trans h1 h) (by simp) (by simp)
  unfold rdTags
  exact ⟨by simp only [List.length_nil] at h2;omega,h3.1,fun y hy => Nat.le_trans (h3.2 y hy) (by decide)⟩

/-! ### The parts -/
def okDf : Nat → List Fld → Bool
  | 0,_ => true
  | d + 1,fs => decide (fs.length ≤ 32767) && fs.all fun f => (!decide (f.kind = 4) || decide (IntKind.i64.wrap f.df = f.df)) && (!decide (f.kind = 10) && !decide (f.of = 10) || okDf d f.sub)
inductive All3 {α β : Type} (R : α → β → Prop) : List α → List β → Prop
  | nil : All3 R [] []
  | cons {a : α} {b : β} {l : List α} {m : List β} (h : R a b) (t : All3 R l m) : All3 R (a :: l) (b :: m)
theorem goodL_of {G : List Fld → Tree → Prop} {n : Int} {s : List UInt8} {nl : Bool} {u : List TagD} : ∀ {fs : List Fld} {l : List Tree} (pre : List Tree),All3 (GoodF G) fs l → GoodL G (.mk n s nl (pre ++ l) u) fs pre.length
  | _,_,_,.nil => trivial
  | f :: fs,x :: l,pre,.cons h t => by
    refine ⟨?_,?_⟩
    · have : Tree.at (.mk n s nl (pre ++ x :: l) u) pre.length = x := by simp [Tree.at,Tree.l]
      rw [this];exact h
    · have := goodL_of (G := G) (n := n) (s := s) (nl := nl) (u := u) (pre ++ [x]) t
      simpa using this
theorem good1_num {G : List Fld → Tree → Prop} {k : Int} {sub : List Fld} {n : Int} (h : k = 4 → IntKind.i64.wrap n = n) (hk : k ≠ 10) : Good1 G k sub (.num n) := ⟨h,by simp [Tree.num,Tree.s],fun h => absurd h hk⟩
theorem good1_oct {G : List Fld → Tree → Prop} {k : Int} {sub : List Fld} {b : Bool} {s : List UInt8} (h : s.length ≤ 32767) (hk : k ≠ 10) : Good1 G k sub (.oct b s) := ⟨fun _ => rfl,h,fun h => absurd h hk⟩
theorem rd1_good {d : Nat} {pt : List Fld → St → Tree × St} {k : Int} {sub : List Fld} {may flex : Bool} {st : St} (h : stLen st ≤ 32766) (hpt : k = 10 → GoodP d sub (pt sub st).1) (hs : k = 10 → (pt sub st).1.s = []) (hn : k = 10 → (pt sub st).1.n = 0) : Good1 (GoodP d) k sub (rd1 pt k sub may flex st).1 := by
  unfold rd1
  by_cases h0 : k = 0
  · rw [if_pos h0];exact good1_num (fun h => by omega) (by omega)
  · rw [if_neg h0]
    by_cases h7 : k = 7
    · rw [if_pos h7];exact good1_oct (by rw [uuidS_len];omega) (by omega)
    · rw [if_neg h7]
      by_cases h8 : k = 8
      · rw [if_pos h8]
        split
        · exact good1_oct (by have := rdNStr_len flex st;omega) (by omega)
        · exact good1_oct (by have := rdStr_len flex st;omega) (by omega)
      · rw [if_neg h8]
        by_cases h9 : k = 9
        · rw [if_pos h9]
          split
          · exact good1_oct (by have := rdNBytes_len flex st;omega) (by omega)
          · exact good1_oct (by have := rdBytes_len flex st;omega) (by omega)
        · rw [if_neg h9]
          by_cases h10 : k = 10
          · rw [if_pos h10]
            exact ⟨fun h => by omega,by rw [hs h10];simp,fun _ => hpt h10⟩
          · rw [if_neg h10]
            refine good1_num (fun h => ?_) h10
            subst h
            exact wrap_wrap _ _
theorem rdMany_good {R : Tree → Prop} {r : St → Tree × St} (hs : Shr r) (h : ∀ st,stLen st ≤ 32766 → R (r st).1) : ∀ (n : Nat) (st : St),stLen st ≤ 32766 → (rdMany r n st).1.length = n ∧ ∀ y ∈ (rdMany r n st).1,R y
  | 0,_,_ => ⟨rfl,by simp [rdMany]⟩
  | n + 1,st,hst => by
    have ih := rdMany_good hs h n (r st).2 (Nat.le_trans (hs st) hst)
    rw [rdMany_succ]
    refine ⟨by simp [ih.1],fun y hy => ?_⟩
    rcases List.mem_cons.1 hy with rfl | hy
    · exact h st hst
    · exact ih.2 y hy
theorem rdP_sn (v : Int) (flex : Bool) : ∀ d fs st,(rdP d v flex fs st).1.s = [] ∧ (rdP d v flex fs st).1.n = 0
  | 0,_,_ => ⟨rfl,rfl⟩
  | d + 1,fs,st => by
    rw [rdP]
    split <;> exact ⟨rfl,rfl⟩
theorem dfP_sn : ∀ d fs,(dfP d fs).s = [] ∧ (dfP d fs).n = 0
  | 0,_ => ⟨rfl,rfl⟩
  | d + 1,fs => ⟨rfl,rfl⟩
theorem Good_setNull {d : Nat} {fs : List Fld} {t : Tree} (h : GoodP d fs t) (b : Bool) : GoodP d fs (t.setNull b) := by
  cases t with
  | mk n s nl l u =>
    cases d with
    | zero => trivial
    | succ d =>
      refine ⟨?_,h.2⟩
      have key : ∀ (fs : List Fld) (i : Nat),GoodL (GoodP d) (.mk n s nl l u) fs i → GoodL (GoodP d) (.mk n s b l u) fs i := by
        intro fs
        induction fs with
        | nil => intro i _;trivial
        | cons f fs ih => intro i h;exact ⟨h.1,ih _ h.2⟩
      exact key fs 0 h.1
theorem dfF_good {d : Nat} {dp : List Fld → Tree} {f : Fld} (hdp : f.kind = 10 → GoodP d f.sub (dp f.sub) ∧ (dp f.sub).s = []) (h4 : f.kind = 4 → IntKind.i64.wrap f.df = f.df) : GoodF (GoodP d) f (dfF dp f) := by
  unfold GoodF dfF
  by_cases h11 : f.kind = 11
  · rw [if_pos h11,if_neg (by omega),if_neg (by omega),if_neg (by omega),if_pos h11]
    exact ⟨by simp [Tree.l],fun y hy => by simp [Tree.l] at hy⟩
  · rw [if_neg h11]
    by_cases h8 : f.kind = 8
    · rw [if_pos h8];exact good1_oct (by simp) (by omega)
    · rw [if_neg h8]
      by_cases h7 : f.kind = 7
      · rw [if_pos h7];exact good1_oct (by rw [uuidS_len];omega) (by omega)
      · rw [if_neg h7]
        by_cases h9 : f.kind = 9
        · rw [if_pos h9];exact good1_oct (by simp) (by omega)
        · rw [if_neg h9,if_neg h11]
          by_cases h10 : f.kind = 10
          · rw [if_pos h10]
            have := hdp h10
            refine ⟨fun h => by omega,?_,fun _ => Good_setNull this.1 _⟩
            have e : ((dp f.sub).setNull (decide (0 ≤ f.null))).s = (dp f.sub).s := by cases dp f.sub;rfl
            rw [e,this.2];simp
          · rw [if_neg h10];exact good1_num h4 h10
theorem okDf_f {d : Nat} {fs : List Fld} (h : okDf (d + 1) fs = true) {f : Fld} (hf : f ∈ fs) : (f.kind = 4 → IntKind.i64.wrap f.df = f.df) ∧ (f.kind = 10 ∨ f.of = 10 → okDf d f.sub = true) := by
  unfold okDf at h
  rw [Bool.and_eq_true] at h
  have := List.all_eq_true.1 h.2 f hf
  simp only [Bool.and_eq_true,Bool.or_eq_true,Bool.not_eq_true',decide_eq_false_iff_not,decide_eq_true_eq] at this
  refine ⟨fun h4 => this.1.resolve_left fun h => h h4,fun h10 => this.2.resolve_left fun h => ?_⟩
  rcases h10 with h10 | h10
  · exact h.1 h10
  · exact h.2 h10
theorem dfP_good : ∀ (d : Nat) (fs : List Fld),okDf d fs = true → GoodP d fs (dfP d fs)
  | 0,_,_ => trivial
  | d + 1,fs,h => by
    refine ⟨?_,by simp [dfP,Tree.u,GoodU]⟩
    have key : ∀ (gs : List Fld),(∀ f ∈ gs,f ∈ fs) → All3 (GoodF (GoodP d)) gs (gs.map (dfF (dfP d))) := by
      intro gs
      induction gs with
      | nil => intro _;exact .nil
      | cons f gs ih =>
        intro hm
        have hf := okDf_f h (hm f (by simp))
        exact .cons (dfF_good (fun h10 => ⟨dfP_good d f.sub (hf.2 (.inl h10)),(dfP_sn d f.sub).1⟩) hf.1) (ih fun g hg => hm g (by simp [hg]))
    exact goodL_of (G := GoodP d) [] (key fs fun _ h => h)
theorem rdP_good (v : Int) (flex : Bool) : ∀ (d : Nat) (fs : List Fld),okDf d fs = true → ∀ st,stLen st ≤ 32766 → GoodP d fs (rdP d v flex fs st).1
  | 0,_,_,_,_ => trivial
  | d + 1,fs,h,st,hst => by
    have key : ∀ (gs : List Fld),(∀ f ∈ gs,f ∈ fs) → ∀ st,stLen st ≤ 32766 → All3 (GoodF (GoodP d)) gs (rdL (rdP d v flex) (dfP d) v flex gs st).1 := by
      intro gs
      induction gs with
      | nil => intro _ st _;exact .nil
      | cons f gs ih =>
        intro hm st hst
        have hf := okDf_f h (hm f (by simp))
        rw [rdL]
        split
        · refine .cons ?_ (ih (fun g hg => hm g (by simp [hg])) _ (Nat.le_trans (rdF_shr (rdP_shr v flex d) v flex f st) hst))
          unfold GoodF rdF
          by_cases h11 : f.kind = 11
          · rw [if_pos h11,if_pos h11]
            unfold rdList
            have hz := rdALen_len flex st
            have hg := rdMany_good (R := Good1 (GoodP d) f.of f.sub) (r := rd1 (rdP d v flex) f.of f.sub false flex) (rd1_shr (rdP_shr v flex d) _ _ _ _)
              (fun st hst => rd1_good hst (fun h10 => rdP_good v flex d f.sub (hf.2 (.inr h10)) st hst) (fun _ => (rdP_sn v flex d f.sub st).1) (fun _ => (rdP_sn v flex d f.sub st).2)) (rdALen flex st).1.toNat (rdALen flex st).2 (Nat.le_trans (rdALen_shr flex st) hst)
            exact ⟨by rw [show Tree.l (.mk 0 [] _ (rdMany _ _ _).1 []) = (rdMany _ _ _).1 from rfl,hg.1];omega,hg.2⟩
          · rw [if_neg h11,if_neg h11]
            exact rd1_good hst (fun h10 => rdP_good v flex d f.sub (hf.2 (.inl h10)) st hst) (fun _ => (rdP_sn v flex d f.sub st).1) (fun _ => (rdP_sn v flex d f.sub st).2)
        · exact .cons (dfF_good (fun h10 => ⟨dfP_good d f.sub (hf.2 (.inl h10)),(dfP_sn d f.sub).1⟩) hf.1) (ih (fun g hg => hm g (by simp [hg])) st hst)
    have hl := key fs (fun _ h => h) st hst
    rw [rdP]
    split
    · exact ⟨goodL_of (G := GoodP d) [] hl,rdTags_good (Nat.le_trans (rdL_shr (rdP_shr v flex d) v flex fs st) hst)⟩
    · exact ⟨goodL_of (G := GoodP d) [] hl,by simp [Tree.u,GoodU]⟩

theorem okDf_len {d : Nat} {fs : List Fld} (h : okDf (d + 1) fs = true) : fs.length ≤ 32767 := by
  unfold okDf at h
  rw [Bool.and_eq_true,decide_eq_true_eq] at h
  exact h.1
theorem small_num (n : Int) : Small 32767 (.num n) := .mk (by simp) (by simp) (by simp) (fun i h => by simp at h) (fun x h => by simp at h)
theorem small_oct (b : Bool) {s : List UInt8} (h : s.length ≤ 32767) : Small 32767 (.oct b s) := .mk h (by simp) (by simp) (fun i h => by simp at h) (fun x h => by simp at h)
theorem small_list (b : Bool) {l : List Tree} (hl : l.length ≤ 32767) (h : ∀ x ∈ l,Small 32767 x) : Small 32767 (.mk 0 [] b l []) := .mk (by simp) hl (by simp) (fun i hi => h _ (List.getElem_mem hi)) (fun x h => by simp at h)
theorem tl1_small {d : Nat} {k : Int} {sub : List Fld} {x : Tree} (hg : Good1 (GoodP d) k sub x) (hp : k = 10 → GoodP d sub x → Small 32767 (tlP d sub x)) : Small 32767 (tl1 (tlP d) k sub x) := by
  unfold tl1
  split
  · exact small_num _
  · split
    · exact small_oct _ (by rw [uuidS_len];omega)
    · split
      · exact small_oct _ hg.2.1
      · split
        · refine small_oct _ ?_
          split
          · simp
          · exact hg.2.1
        · split
          · rename_i h10;exact hp h10 (hg.2.2 h10)
          · exact small_num _
theorem tlL_len (tp : List Fld → Tree → Tree) (t : Tree) : ∀ fs i,(tlL tp t fs i).length = fs.length
  | [],_ => rfl
  | f :: fs,i => by simp [tlL,tlL_len tp t fs]
theorem tlP_small : ∀ (d : Nat) (fs : List Fld) (t : Tree),okDf d fs = true → GoodP d fs t → Small 32767 (tlP d fs t)
  | 0,_,_,_,_ => .mk (by simp) (by simp) (by simp) (fun i h => by simp at h) (fun x h => by simp at h)
  | d + 1,fs,t,ho,h => by
    have key : ∀ (gs : List Fld) (i : Nat),(∀ f ∈ gs,f ∈ fs) → GoodL (GoodP d) t gs i → ∀ y ∈ tlL (tlP d) t gs i,Small 32767 y := by
      intro gs
      induction gs with
      | nil => intro i _ _ y hy;simp [tlL] at hy
      | cons f gs ih =>
        intro i hm hg y hy
        rcases List.mem_cons.1 hy with rfl | hy
        · have hf := (okDf_f ho (hm f (by simp))).2
          unfold tlF
          split
          · rename_i h8
            refine small_oct _ ?_
            have h1 := (hg.1.one (by omega)).2.1
            split
            · simp
            · exact h1
          · split
            · rename_i h11
              have hl := hg.1.listL h11 rfl
              refine small_list _ (by rw [List.length_map];exact hl.1) fun x hx => ?_
              obtain ⟨z,hz,rfl⟩ := List.mem_map.1 hx
              exact tl1_small (hl.2 z hz) fun h10 hgz => tlP_small d f.sub z (hf (.inr h10)) hgz
            · rename_i h11
              exact tl1_small (hg.1.one h11) fun h10 hgz => tlP_small d f.sub _ (hf (.inl h10)) hgz
        · exact ih (i + 1) (fun g hg => hm g (by simp [hg])) hg.2 y hy
    have hu := h.2
    exact .mk (by simp) (by rw [tlL_len];exact okDf_len ho) (by rw [(sortT_perm t.u).length_eq];exact hu.1)
      (fun i hi => key fs 0 (fun _ h => h) h.1 _ (List.getElem_mem hi)) (fun x hx => hu.2.2 x ((sortT_perm t.u).mem_iff.1 hx))
theorem Small.lists {t : Tree} (h : Small 32767 t) : Lists t := by
  induction h with
  | mk hs hl hu he hd ih => exact .mk hl hu ih
end Ms

