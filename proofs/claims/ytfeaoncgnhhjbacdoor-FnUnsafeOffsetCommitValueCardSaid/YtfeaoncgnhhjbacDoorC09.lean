/- A part of the proof: see the last text. -/
import Derived.Test.YtfeaoncgnhhjbacDoorC02
import Derived.Test.YtfeaoncgnhhjbacDoorC03
import Derived.Test.YtfeaoncgnhhjbacDoorC05
import Derived.Test.YtfeaoncgnhhjbacDoorC06
import Derived.Test.YtfeaoncgnhhjbacDoorC08
set_option linter.unusedSimpArgs false
set_option linter.unusedVariables false
namespace Ms
open Go

def Shr {α : Type} (r : St → α × St) : Prop := ∀ st,stLen (r st).2 ≤ stLen st
theorem stLen_none : stLen none = 0 := rfl
theorem stLen_some (s : List UInt8) : stLen (some s) = s.length := rfl
theorem rdN_shr (n : Nat) : Shr (rdN n) := fun st => by
  cases st with
  | none => exact Nat.le_refl _
  | some s =>
    unfold rdN;simp only
    split
    · simp [stLen]
    · simp [stLen]
theorem rdInt_shr (k : IntKind) (n : Nat) : Shr (rdInt k n) := rdN_shr n
theorem rdUv_shr : Shr rdUv := fun st => by
  cases st with
  | none => exact Nat.le_refl _
  | some s =>
    unfold rdUv;simp only
    split
    · rename_i x hx
      have := (uvD_some hx).1
      simp only [stLen_some];omega
    · simp [stLen]
theorem rdUv_less {s : List UInt8} (h : (rdUv (some s)).2 ≠ none) : stLen (rdUv (some s)).2 + 1 ≤ s.length := by
  unfold rdUv at h ⊢;simp only at h ⊢
  split
  · rename_i x hx
    have := (uvD_some hx).1
    simp only [stLen_some];omega
  · rename_i hx;rw [hx] at h;simp at h
theorem rdUv_fail {s : List UInt8} (h : (rdUv (some s)).2 = none) : (rdUv (some s)).1 = 0 := by
  unfold rdUv at h ⊢;simp only at h ⊢
  split
  · rename_i x hx;rw [hx] at h;simp at h
  · rfl
theorem rdSpan_shr (l : Int) : Shr (rdSpan l) := fun st => by
  cases st with
  | none => exact Nat.le_refl _
  | some s =>
    unfold rdSpan;simp only
    split
    · simp [stLen]
    · simp [stLen]
theorem rdSpan_len (l : Int) (st : St) : (rdSpan l st).1.length ≤ stLen st := by
  cases st with
  | none => simp [rdSpan]
  | some s =>
    unfold rdSpan;simp only
    split
    · simp [stLen];omega
    · simp
theorem rdLen_shr (flex : Bool) (k : IntKind) (n : Nat) : Shr (rdLen flex k n) := fun st => by
  unfold rdLen;split
  · exact rdUv_shr st
  · exact rdInt_shr k n st
theorem rdStr_shr (flex : Bool) : Shr (rdStr flex) := fun st => Nat.le_trans (rdSpan_shr _ _) (rdLen_shr flex _ _ st)
theorem rdStr_len (flex : Bool) (st : St) : (rdStr flex st).1.length ≤ stLen st := Nat.le_trans (rdSpan_len _ _) (rdLen_shr flex _ _ st)
theorem rdOct_shr (flex : Bool) : Shr (rdOct flex) := fun st => Nat.le_trans (rdSpan_shr _ _) (rdLen_shr flex _ _ st)
theorem rdOct_len (flex : Bool) (st : St) : (rdOct flex st).1.length ≤ stLen st := Nat.le_trans (rdSpan_len _ _) (rdLen_shr flex _ _ st)
theorem rdNStr_shr (flex : Bool) : Shr (rdNStr flex) := fun st => by
  unfold rdNStr;split
  · exact rdLen_shr flex _ _ st
  · exact rdStr_shr flex st
theorem rdNStr_len (flex : Bool) (st : St) : (rdNStr flex st).1.2.length ≤ stLen st := by
  unfold rdNStr;split
  · simp
  · exact rdStr_len flex st
theorem rdBytes_shr (flex : Bool) : Shr (rdBytes flex) := fun st => by
  unfold rdBytes;split
  · exact rdLen_shr flex _ _ st
  · exact rdOct_shr flex st
theorem rdBytes_len (flex : Bool) (st : St) : (rdBytes flex st).1.2.length ≤ stLen st := by
  unfold rdBytes;split
  · simp
  · exact rdOct_len flex st
theorem rdNBytes_shr (flex : Bool) : Shr (rdNBytes flex) := fun st => by
  unfold rdNBytes;split
  · exact rdLen_shr flex _ _ st
  · exact rdOct_shr flex st
theorem rdNBytes_len (flex : Bool) (st : St) : (rdNBytes flex st).1.2.length ≤ stLen st := by
  unfold rdNBytes;split
  · simp
  · exact rdOct_len flex st
theorem rdCnt_shr (flex : Bool) : Shr (rdCnt flex) := fun st => by
  unfold rdCnt;split
  · exact rdUv_shr st
  · exact rdInt_shr _ _ st
theorem rdALen_shr (flex : Bool) : Shr (rdALen flex) := fun st => by
  unfold rdALen;split
  · simp [stLen]
  · exact rdCnt_shr flex st
theorem rdALen_len (flex : Bool) (st : St) : (rdALen flex st).1.toNat ≤ stLen st := by
  have := rdCnt_shr flex st
  unfold rdALen;split
  · simp
  · omega
theorem rdTag_shr (u : List TagD) : Shr (rdTag u) := fun st => Nat.le_trans (rdSpan_shr _ _) (Nat.le_trans (rdUv_shr _) (rdUv_shr st))
theorem rdTagsN_shr : ∀ (n : Nat) (u : List TagD),Shr (rdTagsN n u)
  | 0,_ => fun st => Nat.le_refl _
  | n + 1,u => fun st => Nat.le_trans (rdTagsN_shr n _ _) (rdTag_shr u st)
theorem rdTags_shr : Shr rdTags := fun st => Nat.le_trans (rdTagsN_shr _ _ _) (rdUv_shr st)
theorem rdMany_shr {r : St → Tree × St} (h : Shr r) : ∀ n,Shr (rdMany r n)
  | 0 => fun st => Nat.le_refl _
  | n + 1 => fun st => Nat.le_trans (rdMany_shr h n _) (h st)
theorem rd1_shr {pt : List Fld → St → Tree × St} (h : ∀ sub,Shr (pt sub)) (k : Int) (sub : List Fld) (may flex : Bool) : Shr (rd1 pt k sub may flex) := fun st => by
  unfold rd1
  split
  · exact rdN_shr _ st
  · split
    · exact rdSpan_shr _ st
    · split
      · split
        · exact rdNStr_shr flex st
        · exact rdStr_shr flex st
      · split
        · split
          · exact rdNBytes_shr flex st
          · exact rdBytes_shr flex st
        · split
          · exact h sub st
          · exact rdInt_shr (kindK k) (widthS k) st
theorem rdF_shr {pt : List Fld → St → Tree × St} (h : ∀ sub,Shr (pt sub)) (v : Int) (flex : Bool) (f : Fld) : Shr (rdF pt v flex f) := fun st => by
  unfold rdF
  split
  · exact Nat.le_trans (rdMany_shr (rd1_shr h _ _ _ _) _ _) (rdALen_shr flex st)
  · split
    · unfold rdOpt
      split
      · exact rdInt_shr .i8 1 st
      · exact Nat.le_trans (h f.sub _) (rdInt_shr .i8 1 st)
    · exact rd1_shr h _ _ _ _ st
theorem rdL_shr {pt : List Fld → St → Tree × St} {dp : List Fld → Tree} (h : ∀ sub,Shr (pt sub)) (v : Int) (flex : Bool) : ∀ fs,Shr (rdL pt dp v flex fs)
  | [] => fun st => Nat.le_refl _
  | f :: fs => fun st => by
    rw [rdL]
    split
    · exact Nat.le_trans (rdL_shr h v flex fs _) (rdF_shr h v flex f st)
    · exact rdL_shr h v flex fs st
theorem rdP_shr (v : Int) (flex : Bool) : ∀ d fs,Shr (rdP d v flex fs)
  | 0,_ => fun st => Nat.le_refl _
  | d + 1,fs => fun st => by
    rw [rdP]
    split
    · exact Nat.le_trans (rdTags_shr _) (rdL_shr (rdP_shr v flex d) v flex fs st)
    · exact rdL_shr (rdP_shr v flex d) v flex fs st

/-! ### The tags -/
theorem tagPut_len (u : List TagD) (y : TagD) : (tagPut u y).length ≤ u.length + 1 := by
  unfold tagPut;split <;> simp
theorem tagPut_has {u : List TagD} {y : TagD} (h : u.any (fun x => x.1 == y.1) = true) : (tagPut u y).length = u.length ∧ (tagPut u y).any (fun x => x.1 == y.1) = true := by
  unfold tagPut
  rw [if_pos h]
  refine ⟨by simp,?_⟩
  rw [List.any_eq_true] at h ⊢
  obtain ⟨x,hx,he⟩ := h
  refine ⟨y,List.mem_map.2 ⟨x,hx,by rw [if_pos (by simpa using he)]⟩,by simp⟩
theorem tagPut_any (u : List TagD) (y : TagD) : (tagPut u y).any (fun x => x.1 == y.1) = true := by
  by_cases h : u.any (fun x => x.1 == y.1) = true
  · exact (tagPut_has h).2
  · unfold tagPut;rw [if_neg h];simp
theorem rdTagsN_dead : ∀ (n : Nat) (u : List TagD),u.any (fun x => x.1 == 0) = true → (rdTagsN n u none).1.length = u.length
  | 0,_,_ => rfl
  | n + 1,u,h => by
    have := tagPut_has (u := u) (y := (0,[])) h
    rw [rdTagsN,show rdTag u none = (tagPut u (0,[]),none) from rfl]
    rw [rdTagsN_dead n _ this.2,this.1]
theorem rdTagsN_len : ∀ (n : Nat) (u : List TagD) (st : St),(rdTagsN n u st).1.length ≤ u.length + stLen st + 1
  | 0,u,st => by simp only [rdTagsN];omega
  | n + 1,u,none => by
    rw [rdTagsN,show rdTag u none = (tagPut u (0,[]),none) from rfl,rdTagsN_dead n _ (tagPut_any u (0,[]))]
    have := tagPut_len u (0,[])
    omega
  | n + 1,u,some s => by
    rw [rdTagsN]
    by_cases hk : (rdUv (some s)).2 = none
    · have h1 : rdTag u (some s) = (tagPut u (0,[]),none) := by
        unfold rdTag;rw [hk,rdUv_fail hk];rfl
      rw [h1,rdTagsN_dead n _ (tagPut_any u (0,[]))]
      have := tagPut_len u (0,[])
      omega
    · have ih := rdTagsN_len n (rdTag u (some s)).1 (rdTag u (some s)).2
      have h2 : stLen (rdTag u (some s)).2 + 1 ≤ s.length := Nat.le_trans (Nat.succ_le_succ (Nat.le_trans (rdSpan_shr _ _) (rdUv_shr _))) (rdUv_less hk)
      have h3 : (rdTag u (some s)).1.length ≤ u.length + 1 := tagPut_len _ _
      rw [stLen_some]
      omega
theorem rdTagsN_good : ∀ (n : Nat) (u : List TagD) (st : St) (M : Nat),stLen st ≤ M → (u.map (·.1)).Nodup → (∀ y ∈ u,y.2.length ≤ M) → ((rdTagsN n u st).1.map (·.1)).Nodup ∧ ∀ y ∈ (rdTagsN n u st).1,y.2.length ≤ M
  | 0,_,_,_,_,h1,h2 => ⟨h1,h2⟩
  | n + 1,u,st,M,hM,h1,h2 => by
    rw [rdTagsN]
    refine rdTagsN_good n _ _ M (Nat.le_trans (rdTag_shr u st) hM) (tagPut_keys _ _ h1) fun y hy => ?_
    have hl : (rdSpan (rdUv (rdUv st).2).1 (rdUv (rdUv st).2).2).1.length ≤ M := Nat.le_trans (rdSpan_len _ _) (Nat.le_trans (rdUv_shr _) (Nat.le_trans (rdUv_shr _) hM))
    unfold rdTag tagPut at hy
    simp only at hy
    split at hy
    · obtain ⟨x,hx,rfl⟩ := List.mem_map.1 hy
      split
      · exact hl
      · exact h2 x hx
    · rcases List.mem_append.1 hy with hy | hy
      · exact h2 y hy
      · simp only [List.mem_singleton] at hy;subst hy;exact hl
theorem rdTags_good {st : St} (h : stLen st ≤ 32766) : GoodU (rdTags st).1 := by
  have h1 := rdUv_shr st
  have h2 := rdTagsN_len (rdUv st).1 [] (rdUv st).2
  have h3 := rdTagsN_good (rdUv st).1 [] (rdUv st).2 32766 (Nat.le_trans h1 h) (by simp) (by simp)
  unfold rdTags
  exact ⟨by simp only [List.length_nil] at h2;omega,h3.1,fun y hy => Nat.le_trans (h3.2 y hy) (by decide)⟩

/-! ### The parts -/
def okDf : Nat → List Fld → Bool
  | 0,_ => true
  | d + 1,fs => decide (fs.length ≤ 32767) && fs.all fun f => (!decide (f.kind = 4) || decide (IntKind.i64.wrap f.df = f.df)) && (!decide (f.kind = 10) && !decide (f.of = 10) || okDf d f.sub)
inductive All3 {α β : Type} (R : α → β → Prop) : List α → List β → Prop
  | nil : All3 R [] []
  | cons {a : α} {b : β} {l : List α} {m : List β} (h : R a b) (t : All3 R l m) : All3 R (a :: l) (b :: m)
theorem goodL_of {G : List Fld → Tree → Prop} {n : Int} {s : List UInt8} {nl : Bool} {u : List TagD} : ∀ {fs : List Fld} {l : List Tree} (pre : List Tree),All3 (GoodF G) fs l → GoodL G (.mk n s nl (pre ++ l) u) fs pre.length
  | _,_,_,.nil => trivial
  | f :: fs,x :: l,pre,.cons h t => by
    refine ⟨?_,?_⟩
    · have : Tree.at (.mk n s nl (pre ++ x :: l) u) pre.length = x := by simp [Tree.at,Tree.l]
      rw [this];exact h
    · have := goodL_of (G := G) (n := n) (s := s) (nl := nl) (u := u) (pre ++ [x]) t
      simpa using this
theorem good1_num {G : List Fld → Tree → Prop} {k : Int} {sub : List Fld} {n : Int} (h : k = 4 → IntKind.i64.wrap n = n) (hk : k ≠ 10) : Good1 G k sub (.num n) := ⟨h,by simp [Tree.num,Tree.s],fun h => absurd h hk⟩
theorem good1_oct {G : List Fld → Tree → Prop} {k : Int} {sub : List Fld} {b : Bool} {s : List UInt8} (h : s.length ≤ 32767) (hk : k ≠ 10) : Good1 G k sub (.oct b s) := ⟨fun _ => rfl,h,fun h => absurd h hk⟩
theorem rd1_good {d : Nat} {pt : List Fld → St → Tree × St} {k : Int} {sub : List Fld} {may flex : Bool} {st : St} (h : stLen st ≤ 32766) (hpt : k = 10 → GoodP d sub (pt sub st).1) (hs : k = 10 → (pt sub st).1.s = []) (hn : k = 10 → (pt sub st).1.n = 0) : Good1 (GoodP d) k sub (rd1 pt k sub may flex st).1 := by
  unfold rd1
  by_cases h0 : k = 0
  · rw [if_pos h0];exact good1_num (fun h => by omega) (by omega)
  · rw [if_neg h0]
    by_cases h7 : k = 7
    · rw [if_pos h7];exact good1_oct (by rw [uuidS_len];omega) (by omega)
    · rw [if_neg h7]
      by_cases h8 : k = 8
      · rw [if_pos h8]
        split
        · exact good1_oct (by have := rdNStr_len flex st;omega) (by omega)
        · exact good1_oct (by have := rdStr_len flex st;omega) (by omega)
      · rw [if_neg h8]
        by_cases h9 : k = 9
        · rw [if_pos h9]
          split
          · exact good1_oct (by have := rdNBytes_len flex st;omega) (by omega)
          · exact good1_oct (by have := rdBytes_len flex st;omega) (by omega)
        · rw [if_neg h9]
          by_cases h10 : k = 10
          · rw [if_pos h10]
            exact ⟨fun h => by omega,by rw [hs h10];simp,fun _ => hpt h10⟩
          · rw [if_neg h10]
            refine good1_num (fun h => ?_) h10
            subst h
            exact wrap_wrap _ _
theorem rdMany_good {R : Tree → Prop} {r : St → Tree × St} (hs : Shr r) (h : ∀ st,stLen st ≤ 32766 → R (r st).1) : ∀ (n : Nat) (st : St),stLen st ≤ 32766 → (rdMany r n st).1.length = n ∧ ∀ y ∈ (rdMany r n st).1,R y
  | 0,_,_ => ⟨rfl,by simp [rdMany]⟩
  | n + 1,st,hst => by
    have ih := rdMany_good hs h n (r st).2 (Nat.le_trans (hs st) hst)
    rw [rdMany_succ]
    refine ⟨by simp [ih.1],fun y hy => ?_⟩
    rcases List.mem_cons.1 hy with rfl | hy
    · exact h st hst
    · exact ih.2 y hy
theorem rdP_sn (v : Int) (flex : Bool) : ∀ d fs st,(rdP d v flex fs st).1.s = [] ∧ (rdP d v flex fs st).1.n = 0
  | 0,_,_ => ⟨rfl,rfl⟩
  | d + 1,fs,st => by
    rw [rdP]
    split <;> exact ⟨rfl,rfl⟩
theorem dfP_sn : ∀ d fs,(dfP d fs).s = [] ∧ (dfP d fs).n = 0
  | 0,_ => ⟨rfl,rfl⟩
  | d + 1,fs => ⟨rfl,rfl⟩
theorem Good_setNull {d : Nat} {fs : List Fld} {t : Tree} (h : GoodP d fs t) (b : Bool) : GoodP d fs (t.setNull b) := by
  cases t with
  | mk n s nl l u =>
    cases d with
    | zero => trivial
    | succ d =>
      refine ⟨?_,h.2⟩
      have key : ∀ (fs : List Fld) (i : Nat),GoodL (GoodP d) (.mk n s nl l u) fs i → GoodL (GoodP d) (.mk n s b l u) fs i := by
        intro fs
        induction fs with
        | nil => intro i _;trivial
        | cons f fs ih => intro i h;exact ⟨h.1,ih _ h.2⟩
      exact key fs 0 h.1
theorem dfF_good {d : Nat} {dp : List Fld → Tree} {f : Fld} (hdp : f.kind = 10 → GoodP d f.sub (dp f.sub) ∧ (dp f.sub).s = []) (h4 : f.kind = 4 → IntKind.i64.wrap f.df = f.df) : GoodF (GoodP d) f (dfF dp f) := by
  unfold GoodF dfF
  by_cases h11 : f.kind = 11
  · rw [if_pos h11,if_neg (by omega),if_neg (by omega),if_neg (by omega),if_pos h11]
    exact ⟨by simp [Tree.l],fun y hy => by simp [Tree.l] at hy⟩
  · rw [if_neg h11]
    by_cases h8 : f.kind = 8
    · rw [if_pos h8];exact good1_oct (by simp) (by omega)
    · rw [if_neg h8]
      by_cases h7 : f.kind = 7
      · rw [if_pos h7];exact good1_oct (by rw [uuidS_len];omega) (by omega)
      · rw [if_neg h7]
        by_cases h9 : f.kind = 9
        · rw [if_pos h9];exact good1_oct (by simp) (by omega)
        · rw [if_neg h9,if_neg h11]
          by_cases h10 : f.kind = 10
          · rw [if_pos h10]
            have := hdp h10
            refine ⟨fun h => by omega,?_,fun _ => Good_setNull this.1 _⟩
            have e : ((dp f.sub).setNull (decide (0 ≤ f.null))).s = (dp f.sub).s := by cases dp f.sub;rfl
            rw [e,this.2];simp
          · rw [if_neg h10];exact good1_num h4 h10
theorem okDf_f {d : Nat} {fs : List Fld} (h : okDf (d + 1) fs = true) {f : Fld} (hf : f ∈ fs) : (f.kind = 4 → IntKind.i64.wrap f.df = f.df) ∧ (f.kind = 10 ∨ f.of = 10 → okDf d f.sub = true) := by
  unfold okDf at h
  rw [Bool.and_eq_true] at h
  have := List.all_eq_true.1 h.2 f hf
  simp only [Bool.and_eq_true,Bool.or_eq_true,Bool.not_eq_true',decide_eq_false_iff_not,decide_eq_true_eq] at this
  refine ⟨fun h4 => this.1.resolve_left fun h => h h4,fun h10 => this.2.resolve_left fun h => ?_⟩
  rcases h10 with h10 | h10
  · exact h.1 h10
  · exact h.2 h10
theorem dfP_good : ∀ (d : Nat) (fs : List Fld),okDf d fs = true → GoodP d fs (dfP d fs)
  | 0,_,_ => trivial
  | d + 1,fs,h => by
    refine ⟨?_,by simp [dfP,Tree.u,GoodU]⟩
    have key : ∀ (gs : List Fld),(∀ f ∈ gs,f ∈ fs) → All3 (GoodF (GoodP d)) gs (gs.map (dfF (dfP d))) := by
      intro gs
      induction gs with
      | nil => intro _;exact .nil
      | cons f gs ih =>
        intro hm
        have hf := okDf_f h (hm f (by simp))
        exact .cons (dfF_good (fun h10 => ⟨dfP_good d f.sub (hf.2 (.inl h10)),(dfP_sn d f.sub).1⟩) hf.1) (ih fun g hg => hm g (by simp [hg]))
    exact goodL_of (G := GoodP d) [] (key fs fun _ h => h)
theorem GoodP_none (b : Bool) : ∀ (d : Nat) (fs : List Fld),GoodP d fs (.mk 0 [] b [] [])
  | 0,_ => trivial
  | d + 1,fs => by
    refine ⟨?_,by simp [Tree.u,GoodU]⟩
    have : ∀ (l : List Fld) (i : Nat),GoodL (GoodP d) (.mk 0 [] b [] []) l i := by
      intro l
      induction l with
      | nil => intro _;trivial
      | cons f l ih =>
        intro i
        refine ⟨?_,ih _⟩
        have ea : (Tree.mk 0 [] b [] []).at i = .zero := by simp [Tree.at,Tree.l]
        rw [ea]
        unfold GoodF
        split
        · exact ⟨by simp [Tree.zero,Tree.l],fun x hx => by cases hx⟩
        · exact ⟨fun _ => rfl,by simp [Tree.zero,Tree.s],fun _ => GoodP_none false d f.sub⟩
    exact this fs 0
theorem rdOpt_good {d : Nat} {v : Int} {flex : Bool} {k : Int} {sub : List Fld} {st : St} (hk : k = 10) (hst : stLen st ≤ 32766) (h : ∀ st,stLen st ≤ 32766 → GoodP d sub (rdP d v flex sub st).1) : Good1 (GoodP d) k sub (rdOpt (rdP d v flex sub) st).1 := by
  unfold rdOpt
  split
  · exact ⟨fun _ => rfl,by simp [Tree.s],fun _ => GoodP_none true d sub⟩
  · exact ⟨fun h => by omega,by rw [(rdP_sn v flex d sub _).1];simp,fun _ => h _ (Nat.le_trans (rdInt_shr .i8 1 st) hst)⟩
theorem rdP_good (v : Int) (flex : Bool) : ∀ (d : Nat) (fs : List Fld),okDf d fs = true → ∀ st,stLen st ≤ 32766 → GoodP d fs (rdP d v flex fs st).1
  | 0,_,_,_,_ => trivial
  | d + 1,fs,h,st,hst => by
    have key : ∀ (gs : List Fld),(∀ f ∈ gs,f ∈ fs) → ∀ st,stLen st ≤ 32766 → All3 (GoodF (GoodP d)) gs (rdL (rdP d v flex) (dfP d) v flex gs st).1 := by
      intro gs
      induction gs with
      | nil => intro _ st _;exact .nil
      | cons f gs ih =>
        intro hm st hst
        have hf := okDf_f h (hm f (by simp))
        rw [rdL]
        split
        · refine .cons ?_ (ih (fun g hg => hm g (by simp [hg])) _ (Nat.le_trans (rdF_shr (rdP_shr v flex d) v flex f st) hst))
          unfold GoodF rdF
          by_cases h11 : f.kind = 11
          · rw [if_pos h11,if_pos h11]
            unfold rdList
            have hz := rdALen_len flex st
            have hg := rdMany_good (R := Good1 (GoodP d) f.of f.sub) (r := rd1 (rdP d v flex) f.of f.sub false flex) (rd1_shr (rdP_shr v flex d) _ _ _ _)
              (fun st hst => rd1_good hst (fun h10 => rdP_good v flex d f.sub (hf.2 (.inr h10)) st hst) (fun _ => (rdP_sn v flex d f.sub st).1) (fun _ => (rdP_sn v flex d f.sub st).2)) (rdALen flex st).1.toNat (rdALen flex st).2 (Nat.le_trans (rdALen_shr flex st) hst)
            exact ⟨by rw [show Tree.l (.mk 0 [] _ (rdMany _ _ _).1 []) = (rdMany _ _ _).1 from rfl,hg.1];omega,hg.2⟩
          · rw [if_neg h11,if_neg h11]
            split
            · rename_i h10
              exact rdOpt_good h10.1 hst fun st hst => rdP_good v flex d f.sub (hf.2 (.inl h10.1)) st hst
            exact rd1_good hst (fun h10 => rdP_good v flex d f.sub (hf.2 (.inl h10)) st hst) (fun _ => (rdP_sn v flex d f.sub st).1) (fun _ => (rdP_sn v flex d f.sub st).2)
        · exact .cons (dfF_good (fun h10 => ⟨dfP_good d f.sub (hf.2 (.inl h10)),(dfP_sn d f.sub).1⟩) hf.1) (ih (fun g hg => hm g (by simp [hg])) st hst)
    have hl := key fs (fun _ h => h) st hst
    rw [rdP]
    split
    · exact ⟨goodL_of (G := GoodP d) [] hl,rdTags_good (Nat.le_trans (rdL_shr (rdP_shr v flex d) v flex fs st) hst)⟩
    · exact ⟨goodL_of (G := GoodP d) [] hl,by simp [Tree.u,GoodU]⟩

theorem okDf_len {d : Nat} {fs : List Fld} (h : okDf (d + 1) fs = true) : fs.length ≤ 32767 := by
  unfold okDf at h
  rw [Bool.and_eq_true,decide_eq_true_eq] at h
  exact h.1
theorem small_num (n : Int) : Small 32767 (.num n) := .mk (by simp) (by simp) (by simp) (fun i h => by simp at h) (fun x h => by simp at h)
theorem small_oct (b : Bool) {s : List UInt8} (h : s.length ≤ 32767) : Small 32767 (.oct b s) := .mk h (by simp) (by simp) (fun i h => by simp at h) (fun x h => by simp at h)
theorem small_list (b : Bool) {l : List Tree} (hl : l.length ≤ 32767) (h : ∀ x ∈ l,Small 32767 x) : Small 32767 (.mk 0 [] b l []) := .mk (by simp) hl (by simp) (fun i hi => h _ (List.getElem_mem hi)) (fun x h => by simp at h)
theorem tl1_small {d : Nat} {k : Int} {sub : List Fld} {x : Tree} (hg : Good1 (GoodP d) k sub x) (hp : k = 10 → GoodP d sub x → Small 32767 (tlP d sub x)) : Small 32767 (tl1 (tlP d) k sub x) := by
  unfold tl1
  split
  · exact small_num _
  · split
    · exact small_oct _ (by rw [uuidS_len];omega)
    · split
      · exact small_oct _ hg.2.1
      · split
        · refine small_oct _ ?_
          split
          · simp
          · exact hg.2.1
        · split
          · rename_i h10;exact hp h10 (hg.2.2 h10)
          · exact small_num _
theorem tlL_len (tp : List Fld → Tree → Tree) (t : Tree) : ∀ fs i,(tlL tp t fs i).length = fs.length
  | [],_ => rfl
  | f :: fs,i => by simp [tlL,tlL_len tp t fs]
theorem tlP_small : ∀ (d : Nat) (fs : List Fld) (t : Tree),okDf d fs = true → GoodP d fs t → Small 32767 (tlP d fs t)
  | 0,_,_,_,_ => .mk (by simp) (by simp) (by simp) (fun i h => by simp at h) (fun x h => by simp at h)
  | d + 1,fs,t,ho,h => by
    have key : ∀ (gs : List Fld) (i : Nat),(∀ f ∈ gs,f ∈ fs) → GoodL (GoodP d) t gs i → ∀ y ∈ tlL (tlP d) t gs i,Small 32767 y := by
      intro gs
      induction gs with
      | nil => intro i _ _ y hy;simp [tlL] at hy
      | cons f gs ih =>
        intro i hm hg y hy
        rcases List.mem_cons.1 hy with rfl | hy
        · have hf := (okDf_f ho (hm f (by simp))).2
          unfold tlF
          split
          · rename_i h8
            refine small_oct _ ?_
            have h1 := (hg.1.one (by omega)).2.1
            split
            · simp
            · exact h1
          · split
            · rename_i h11
              have hl := hg.1.listL h11 rfl
              refine small_list _ (by rw [List.length_map];exact hl.1) fun x hx => ?_
              obtain ⟨z,hz,rfl⟩ := List.mem_map.1 hx
              exact tl1_small (hl.2 z hz) fun h10 hgz => tlP_small d f.sub z (hf (.inr h10)) hgz
            · rename_i h11
              exact tl1_small (hg.1.one h11) fun h10 hgz => tlP_small d f.sub _ (hf (.inl h10)) hgz
        · exact ih (i + 1) (fun g hg => hm g (by simp [hg])) hg.2 y hy
    have hu := h.2
    exact .mk (by simp) (by rw [tlL_len];exact okDf_len ho) (by rw [(sortT_perm t.u).length_eq];exact hu.1)
      (fun i hi => key fs 0 (fun _ h => h) h.1 _ (List.getElem_mem hi)) (fun x hx => hu.2.2 x ((sortT_perm t.u).mem_iff.1 hx))
theorem Small.lists {t : Tree} (h : Small 32767 t) : Lists t := by
  induction h with
  | mk hs hl hu he hd ih => exact .mk hl hu ih
end Ms

namespace Ms
open Go

theorem fixedS_congr {n m : Int} : ∀ (k : Nat),n % ((256 ^ k : Nat) : Int) = m % ((256 ^ k : Nat) : Int) → fixedS n k = fixedS m k
  | 0,_ => rfl
  | k + 1,h => by
    have hpos : 0 < 256 ^ k := Nat.pow_pos (by omega)
    have e : ((256 ^ (k + 1) : Nat) : Int) = 256 * ((256 ^ k : Nat) : Int) := by rw [Nat.pow_succ,Int.natCast_mul,Int.mul_comm];rfl
    have hp : (2 : Int) ^ (8 * k) = ((256 ^ k : Nat) : Int) := by rw [Int.pow_mul];simp
    rw [e] at h
    have h1 := b8_fdiv (x := n) (y := m) (256 ^ k) h hpos
    have h2 : n % ((256 ^ k : Nat) : Int) = m % ((256 ^ k : Nat) : Int) := by
      have := congrArg (· % ((256 ^ k : Nat) : Int)) h
      simp only [Int.mul_comm 256] at this
      rwa [Int.emod_emod_of_dvd _ (Int.dvd_mul_right _ _),Int.emod_emod_of_dvd _ (Int.dvd_mul_right _ _)] at this
    show b8 (n.fdiv (2 ^ (8 * k))) :: fixedS n k = b8 (m.fdiv (2 ^ (8 * k))) :: fixedS m k
    rw [hp,h1,fixedS_congr k h2]
theorem fixedS_wrap (k : Int) (hk : numK k) (n : Int) : fixedS ((kindK k).wrap n) (widthS k) = fixedS n (widthS k) := by
  refine fixedS_congr _ ?_
  rcases hk with h | h | h | h | h | h <;> subst h <;> simp [kindK,widthS,IntKind.wrap,IntKind.bits,IntKind.signed] <;> (try split) <;> omega
section
variable {pw : List Fld → Int → Bool → Tree → List UInt8} {pc : List Fld → Tree → Tree} {P : List Fld → Tree → Prop} {v : Int} {flex : Bool}
theorem valueS_cn (kind : Int) (sub : List Fld) (null : Bool) (t : Tree) (hk : kind = 0 ∨ numK kind ∨ (7 ≤ kind ∧ kind ≤ 10)) (hp : kind = 10 → pw sub v flex (pc sub t) = pw sub v flex t) :
    valueS pw kind sub null v flex (cn1 pc kind sub null t) = valueS pw kind sub null v flex t := by
  have hw : wholeS (wholeS t.s) = wholeS t.s := wholeS_id (wholeS_len _)
  by_cases h0 : kind = 0
  · subst h0;simp [valueS,cn1,Tree.num,Tree.n]
  by_cases h7 : kind = 7
  · subst h7
    have e1 : ∀ x,valueS pw 7 sub null v flex x = uuidS x.s := fun x => by simp [valueS,uuidS]
    have e2 : cn1 pc 7 sub null t = .oct false (uuidS t.s) := by simp [cn1]
    rw [e1,e1,e2];exact uuidS_idem _
  by_cases h8 : kind = 8
  · subst h8
    have e1 : ∀ x,valueS pw 8 sub null v flex x = countedS flex null (if null = true then [] else wholeS x.s).length 2 ++ (if null = true then [] else wholeS x.s) := fun x => by simp [valueS]
    have e2 : cn1 pc 8 sub null t = .oct null (if null = true then [] else wholeS t.s) := by simp [cn1]
    rw [e1,e1,e2]
    cases null with
    | true => rfl
    | false =>
      show countedS flex false (wholeS (wholeS t.s)).length 2 ++ wholeS (wholeS t.s) = countedS flex false (wholeS t.s).length 2 ++ wholeS t.s
      rw [hw]
  by_cases h9 : kind = 9
  · subst h9
    have e1 : ∀ x,valueS pw 9 sub null v flex x = countedS flex null (if null = true then [] else wholeS x.s).length 4 ++ (if null = true then [] else wholeS x.s) := fun x => by simp [valueS]
    have e2 : cn1 pc 9 sub null t = .oct null (if null = true then [] else wholeS t.s) := by simp [cn1]
    rw [e1,e1,e2]
    cases null with
    | true => rfl
    | false =>
      show countedS flex false (wholeS (wholeS t.s)).length 4 ++ wholeS (wholeS t.s) = countedS flex false (wholeS t.s).length 4 ++ wholeS t.s
      rw [hw]
  by_cases h10 : kind = 10
  · subst h10
    have e1 : ∀ x,valueS pw 10 sub null v flex x = pw sub v flex x := fun x => by simp [valueS]
    have e2 : cn1 pc 10 sub null t = pc sub t := by simp [cn1]
    rw [e1,e1,e2];exact hp rfl
  have hn : numK kind := by rcases hk with h | h | h <;> first | exact h | omega
  have e1 : ∀ x,valueS pw kind sub null v flex x = fixedS x.n (widthS kind) := fun x => by simp [valueS,h0,h7,h8,h9,h10]
  have e2 : cn1 pc kind sub null t = .num ((kindK kind).wrap t.n) := by simp [cn1,h0,h7,h8,h9,h10]
  rw [e1,e1,e2];exact fixedS_wrap kind hn t.n
theorem cn1_null (kind : Int) (sub : List Fld) (null : Bool) (t : Tree) (h : kind = 8 ∨ kind = 9) : (cn1 pc kind sub null t).null = null := by
  unfold cn1;rw [if_neg (by omega),if_neg (by omega),if_pos h];rfl
theorem cn1_fit (kind : Int) (sub : List Fld) (null : Bool) (t : Tree) (hp : kind = 10 → P sub (pc sub t)) : Fit1 P kind sub (cn1 pc kind sub null t) := by
  refine ⟨fun h => ?_,fun h => ?_⟩
  · unfold cn1;rw [if_neg (by omega),if_neg (by omega),if_pos h]
    show (if null = true then [] else wholeS t.s).length ≤ 32767
    split
    · simp
    · exact wholeS_len _
  · subst h;have e2 : cn1 pc 10 sub null t = pc sub t := by simp [cn1]
    rw [e2];exact hp rfl
theorem Tree.l_mk (n : Int) (s : List UInt8) (b : Bool) (l : List Tree) (u : List TagD) : (Tree.mk n s b l u).l = l := rfl
theorem nilS_bool (f : Fld) (b : Bool) (n : Nat) : (0 ≤ f.null → nilS f v (if (b && decide (f.null ≥ 0) && decide (v ≥ f.null)) = true then -1 else (n : Int)) = (b && decide (f.null ≥ 0) && decide (v ≥ f.null))) := by
  intro h
  unfold nilS
  rw [if_pos h]
  have h1 : decide (f.null ≥ 0) = true := by simpa using h
  rw [h1]
  by_cases h2 : f.null ≤ v
  · have h3 : decide (v ≥ f.null) = true := by simpa using h2
    rw [h3]
    cases b <;> simp
  · have h3 : decide (v ≥ f.null) = false := by simpa using h2
    rw [h3];simp
theorem nilS_eq (f : Fld) (t : Tree) (n : Nat) (h : 0 ≤ f.null) : nilS f v (if nullS f v t = true then -1 else (n : Int)) = nullS f v t := nilS_bool f t.null n h
theorem nilS_null (f : Fld) (t : Tree) (n : Nat) (l : List Tree) : nullS f v (.mk 0 [] (nilS f v (if nullS f v t = true then -1 else (n : Int))) l []) = nullS f v t := by
  by_cases h : 0 ≤ f.null
  · rw [nilS_eq f t n h]
    exact (nullS_idem f v t (.mk 0 [] (nullS f v t) l []) rfl).symm
  · rw [nullS_neg (by omega),nullS_neg (by omega)]
theorem fieldS_cn (f : Fld) (t : Tree) (hk : f.kind = 11 ∨ f.kind = 0 ∨ numK f.kind ∨ (7 ≤ f.kind ∧ f.kind ≤ 10)) (ho : f.of = 0 ∨ numK f.of ∨ (7 ≤ f.of ∧ f.of ≤ 10)) (hp : ∀ x,pw f.sub v flex (pc f.sub x) = pw f.sub v flex x) (hpn : ∀ x,(pc f.sub x).null = false) :
    fieldS pw f v flex (cnF pc v f t) = fieldS pw f v flex t := by
  unfold cnF
  by_cases h11 : f.kind = 11
  · rw [if_pos h11]
    have hnu : nullS f v (.mk 0 [] (nilS f v (if nullS f v t = true then -1 else (((thingsS t.l).length : Nat) : Int))) (if nullS f v t = true then [] else (thingsS t.l).map (cn1 pc f.of f.sub false)) []) = nullS f v t := nilS_null f t _ _
    unfold fieldS
    rw [if_pos h11,if_pos h11,hnu]
    cases hq : nullS f v t with
    | true => rfl
    | false =>
      simp only [Bool.false_eq_true,if_false,Tree.l_mk]
      have hth : thingsS ((thingsS t.l).map (cn1 pc f.of f.sub false)) = (thingsS t.l).map (cn1 pc f.of f.sub false) := thingsS_id (by simp only [List.length_map,thingsS,List.length_take];omega)
      rw [hth,List.length_map,List.flatMap_map]
      congr 1
      refine flatMap_ext fun x _ => valueS_cn f.of f.sub false x ho fun _ => hp x
  by_cases hn : f.kind = 10 ∧ 0 ≤ f.null
  · rw [if_neg h11,if_pos hn]
    unfold fieldS
    rw [if_neg h11,if_neg h11,if_pos hn,if_pos hn]
    cases hq : nullS f v t with
    | true =>
      have h1 : nullS f v (.mk 0 [] true [] []) = true := by
        unfold nullS at hq ⊢
        simp only [Bool.and_eq_true] at hq ⊢
        exact ⟨⟨rfl,hq.1.2⟩,hq.2⟩
      simp only [if_true,h1]
    | false =>
      simp only [Bool.false_eq_true,if_false,nullS_false f v _ (hpn t),hp t]
  · rw [if_neg h11,if_neg hn]
    unfold fieldS
    rw [if_neg h11,if_neg h11,if_neg hn,if_neg hn]
    have e : nullS f v (cn1 pc f.kind f.sub (nullS f v t) t) = nullS f v t ∨ (f.kind ≠ 8 ∧ f.kind ≠ 9) := by
      by_cases h89 : f.kind = 8 ∨ f.kind = 9
      · exact .inl ((nullS_idem f v t (cn1 pc f.kind f.sub (nullS f v t) t) (cn1_null _ _ _ _ h89)).symm.trans (cn1_null _ _ _ _ h89))
      · exact .inr (not_or.1 h89)
    have hk' : f.kind = 0 ∨ numK f.kind ∨ (7 ≤ f.kind ∧ f.kind ≤ 10) := by rcases hk with h | h | h | h <;> first | exact absurd h h11 | simp [h]
    rcases e with e | e
    · rw [e];exact valueS_cn _ _ _ _ hk' fun _ => hp t
    · have : ∀ a b x,valueS pw f.kind f.sub a v flex x = valueS pw f.kind f.sub b v flex x := fun a b x => by
        unfold valueS;rw [if_neg e.1,if_neg e.2,if_neg e.1,if_neg e.2]
      rw [this _ (nullS f v t)];exact valueS_cn _ _ _ _ hk' fun _ => hp t
theorem fit_cn (f : Fld) (t : Tree) (hk : f.kind = 11 ∨ f.kind = 0 ∨ numK f.kind ∨ (7 ≤ f.kind ∧ f.kind ≤ 10)) (hp : ∀ x,P f.sub (pc f.sub x)) (h0 : P f.sub (.mk 0 [] true [] [])) (hpn : ∀ x,(pc f.sub x).null = false) : FitWF P v f (cnF pc v f t) := by
  unfold cnF
  by_cases h11 : f.kind = 11
  · rw [if_pos h11]
    have hnu : nullS f v (.mk 0 [] (nilS f v (if nullS f v t = true then -1 else (((thingsS t.l).length : Nat) : Int))) (if nullS f v t = true then [] else (thingsS t.l).map (cn1 pc f.of f.sub false)) []) = nullS f v t := nilS_null f t _ _
    refine ⟨?_,?_⟩
    · by_cases h0 : 0 ≤ f.null
      · left
        rw [hnu]
        exact nilS_eq f t _ h0
      · have hq := nullS_neg (f := f) (v := v) (t := t) (by omega)
        by_cases hl : (thingsS t.l).length = 0
        · right
          refine ⟨by omega,.inr h11,?_,rfl,?_⟩
          · show nilS f v _ = true
            unfold nilS;rw [if_neg h0,hq];simp [hl]
          · have := List.eq_nil_of_length_eq_zero hl
            show (if nullS f v t = true then [] else (thingsS t.l).map (cn1 pc f.of f.sub false)) = []
            rw [this];simp
        · left
          rw [hnu,hq]
          show nilS f v _ = false
          unfold nilS;rw [if_neg h0];simp only [Bool.false_eq_true,if_false,decide_eq_false_iff_not];omega
    · rw [if_pos h11]
      refine ⟨?_,fun x hx => ?_⟩
      · show (if nullS f v t = true then [] else (thingsS t.l).map (cn1 pc f.of f.sub false)).length ≤ 32767
        split
        · simp
        · simp only [List.length_map,thingsS,List.length_take];omega
      · have hx : x ∈ (if nullS f v t = true then [] else (thingsS t.l).map (cn1 pc f.of f.sub false)) := hx
        split at hx
        · cases hx
        · obtain ⟨y,_,rfl⟩ := List.mem_map.1 hx
          exact cn1_fit _ _ _ _ fun _ => hp y
  by_cases hn : f.kind = 10 ∧ 0 ≤ f.null
  · rw [if_neg h11,if_pos hn]
    cases hq : nullS f v t with
    | true =>
      have h1 : nullS f v (.mk 0 [] true [] []) = true := by
        unfold nullS at hq ⊢
        simp only [Bool.and_eq_true] at hq ⊢
        exact ⟨⟨rfl,hq.1.2⟩,hq.2⟩
      simp only [if_true]
      refine ⟨.inl ?_,by rw [if_neg h11];exact ⟨fun h => by omega,fun _ => h0⟩⟩
      rw [h1];rfl
    | false =>
      simp only [Bool.false_eq_true,if_false]
      refine ⟨.inl ?_,by rw [if_neg h11];exact ⟨fun h => by omega,fun _ => hp t⟩⟩
      rw [hpn t,nullS_false f v _ (hpn t)]
  · rw [if_neg h11,if_neg hn]
    refine ⟨.inl ?_,by rw [if_neg h11];exact cn1_fit _ _ _ _ fun _ => hp t⟩
    by_cases h89 : f.kind = 8 ∨ f.kind = 9
    · exact nullS_idem f v t (cn1 pc f.kind f.sub (nullS f v t) t) (cn1_null _ _ _ _ h89)
    · have : (cn1 pc f.kind f.sub (nullS f v t) t).null = false := by
        unfold cn1
        split
        · rfl
        · split
          · rfl
          · try rw [if_neg h89]
            split
            · exact hpn t
            · rfl
      rw [this];exact (nullS_false f v _ this).symm
end
theorem cnL_get (pc : List Fld → Tree → Tree) (dp : List Fld → Tree) (v : Int) (t : Tree) : ∀ (fs : List Fld) (i k : Nat) (h : k < fs.length),(cnL pc dp v t fs i).getD k .zero = if fs[k].tag < 0 ∧ hasS fs[k] v = true then cnF pc v fs[k] (t.at (i + k)) else dfF dp fs[k]
  | f :: fs,i,0,h => by simp [cnL]
  | f :: fs,i,k + 1,h => by
    have := cnL_get pc dp v t fs (i + 1) k (by simpa using h)
    simp only [cnL,List.getD_cons_succ,List.getElem_cons_succ]
    rw [this,show i + 1 + k = i + (k + 1) by omega]
theorem cnP_null (d : Nat) (v : Int) (flex : Bool) (fs : List Fld) (t : Tree) : (cnP d v flex fs t).null = false := by
  cases d <;> rfl
theorem FitW_none (v : Int) (flex : Bool) (b : Bool) : ∀ (d : Nat) (fs : List Fld),okR d v flex fs = true → FitW v (d + 1) fs (.mk 0 [] b [] [])
  | d,fs,h => by
    refine ⟨?_,by simp [Tree.u],fun x hx => (by cases hx),List.Pairwise.nil⟩
    have : ∀ (l : List Fld) (i : Nat),(∀ f ∈ l,f ∈ fs) → FitWL (FitW v d) v (.mk 0 [] b [] []) l i := by
      intro l
      induction l with
      | nil => intro i _;trivial
      | cons f l ihl =>
        intro i hm
        refine ⟨fun _ => ?_,ihl (i + 1) fun g hg => hm g (by simp [hg])⟩
        have ea : (Tree.mk 0 [] b [] []).at i = .zero := by simp [Tree.at,Tree.l]
        rw [ea]
        refine ⟨.inl (nullS_false f v _ rfl).symm,?_⟩
        split
        · exact ⟨by simp [Tree.zero,Tree.l],fun x hx => by cases hx⟩
        · refine ⟨fun _ => by simp [Tree.zero,Tree.s],fun _ => ?_⟩
          cases d with
          | zero =>
            have hnil : fs = [] := by simpa [okR] using h
            have := hm f (by simp)
            rw [hnil] at this;cases this
          | succ d => exact FitW_none v flex false d f.sub (okR_el h (hm f (by simp))).2.2.2.2.1
    exact this fs 0 fun _ h => h
theorem partS_cn (v : Int) (flex : Bool) : ∀ (d : Nat) (fs : List Fld) (t : Tree),okR d v flex fs = true →
    partS (d + 1) fs v flex (cnP (d + 1) v flex fs t) = partS (d + 1) fs v flex t ∧ FitW v (d + 1) fs (cnP (d + 1) v flex fs t) := by
  have key : ∀ (d : Nat) (fs : List Fld) (t : Tree),(∀ f ∈ fs,f.tag < 0) → (∀ f ∈ fs,∀ x,fieldS (partS d) f v flex (cnF (cnP d v flex) v f x) = fieldS (partS d) f v flex x) → (∀ f ∈ fs,∀ x,FitWF (FitW v d) v f (cnF (cnP d v flex) v f x)) →
      partS (d + 1) fs v flex (cnP (d + 1) v flex fs t) = partS (d + 1) fs v flex t ∧ FitW v (d + 1) fs (cnP (d + 1) v flex fs t) := by
    intro d fs t htag hf hfit
    have hk := knownS_none htag
    have e2 : ∀ x,tagsS (partS d) (d + 1) fs v flex x = [] := fun x => by unfold tagsS;rw [hk];rfl
    have hat : ∀ k (h : k < fs.length),(cnP (d + 1) v flex fs t).at k = if fs[k].tag < 0 ∧ hasS fs[k] v = true then cnF (cnP d v flex) v fs[k] (t.at k) else dfF (dfP d) fs[k] := fun k h => by
      have := cnL_get (cnP d v flex) (dfP d) v t fs 0 k h
      rw [Nat.zero_add] at this
      exact this
    have hu : (cnP (d + 1) v flex fs t).u = if flex = true then fitU fs t.u else [] := rfl
    constructor
    · have e6 : plainS (partS d) fs v flex (cnP (d + 1) v flex fs t) = plainS (partS d) fs v flex t := by
        unfold plainS
        refine flatMap_ext fun x hx => ?_
        obtain ⟨f,i⟩ := x
        rw [List.mem_zipIdx_iff_getElem?] at hx
        obtain ⟨hi,he⟩ := List.getElem?_eq_some_iff.1 hx
        simp only at hi he ⊢
        by_cases hc : f.tag < 0 ∧ hasS f v = true
        · rw [if_pos hc,if_pos hc,hat i hi,he,if_pos hc]
          exact hf f (by rw [← he];exact List.getElem_mem _) _
        · rw [if_neg hc,if_neg hc]
      rw [partS_eq,partS_eq]
      unfold partT
      rw [e2,e2,e6]
      cases flex with
      | false => rfl
      | true =>
        simp only [if_true]
        have e1 : unknownS fs (fitU fs t.u) = fitU fs t.u := unknownS_id (fitU_fit fs t.u)
        have e3 : (fitU fs t.u).flatMap unkT = (unknownS fs t.u).flatMap unkT := by
          rw [fitU,List.flatMap_map]
          congr 1;funext x
          simp only [unkT];rw [wholeS_id (wholeS_len x.2)]
        have e4 : (fitU fs t.u).length = (unknownS fs t.u).length := by simp [fitU]
        rw [hu,if_pos rfl,e1,e3,e4]
    · refine ⟨?_,?_⟩
      · have : ∀ (l : List Fld) (i : Nat),i + l.length = fs.length → (∀ k (hk : k < l.length) (hk2 : i + k < fs.length),l[k] = fs[i + k]) → FitWL (FitW v d) v (cnP (d + 1) v flex fs t) l i := by
          intro l
          induction l with
          | nil => intro i _ _;trivial
          | cons f l ihl =>
            intro i hi hl
            simp only [List.length_cons] at hi
            have e := hl 0 (by simp) (by omega)
            simp only [List.getElem_cons_zero,Nat.add_zero] at e
            refine ⟨fun hh => ?_,ihl (i + 1) (by omega) fun k hk hk2 => ?_⟩
            · have hm : f ∈ fs := by rw [e];exact List.getElem_mem _
              rw [hat i (by omega),← e,if_pos ⟨htag f hm,hh⟩]
              exact hfit f hm _
            · have := hl (k + 1) (by simpa using hk) (by omega)
              simp only [List.getElem_cons_succ] at this
              rw [this];congr 1;omega
        exact this fs 0 (by omega) fun k hk hk2 => by simp
      · rw [hu]
        split
        · exact fitU_fit _ _
        · exact ⟨by simp,fun x h => (by cases h),List.Pairwise.nil⟩
  intro d
  induction d with
  | zero =>
    intro fs t h
    have hnil : fs = [] := by simpa [okR] using h
    subst hnil
    exact key 0 [] t (fun _ h => by cases h) (fun _ h => by cases h) (fun _ h => by cases h)
  | succ d ih =>
    intro fs t h
    refine key (d + 1) fs t (fun f hf => (okR_el h hf).1) (fun f hf x => ?_) (fun f hf x => ?_)
    · obtain ⟨g1,g2,g3,g4,g5,g6⟩ := okR_el h hf
      exact fieldS_cn f x g2 g3 (fun y => (ih f.sub y g5).1) fun y => cnP_null _ _ _ _ _
    · obtain ⟨g1,g2,g3,g4,g5,g6⟩ := okR_el h hf
      exact fit_cn f x g2 (fun y => (ih f.sub y g5).2) (FitW_none v flex true d f.sub g5) fun y => cnP_null _ _ _ _ _
end Ms

namespace Ms
open Go

inductive N64 : Tree → Prop
  | mk {n : Int} {s : List UInt8} {null : Bool} {l : List Tree} {u : List TagD} (hn : IntKind.i64.wrap n = n) (he : ∀ x ∈ l,N64 x) : N64 (.mk n s null l u)
theorem N64.n {t : Tree} (h : N64 t) : IntKind.i64.wrap t.n = t.n := by cases h;assumption
theorem N64.l {t : Tree} (h : N64 t) : ∀ x ∈ t.l,N64 x := by cases h;assumption
theorem N64.zero : N64 .zero := .mk (by decide) (fun _ h => by cases h)
theorem N64.at {t : Tree} (h : N64 t) (i : Nat) : N64 (t.at i) := by
  unfold Tree.at
  rcases Nat.lt_or_ge i t.l.length with hi | hi
  · rw [List.getD_eq_getElem?_getD,List.getElem?_eq_getElem hi];exact h.l _ (List.getElem_mem hi)
  · rw [List.getD_eq_getElem?_getD,List.getElem?_eq_none hi];exact N64.zero
theorem TreeC.n64 {ok : Blocks} {w : World} {t : Tree} {cs : List Value} (h : TreeC ok w t cs) : N64 t := by
  induction h with
  | mk hn hS hL hl he hU ih =>
    refine .mk hn fun x hx => ?_
    obtain ⟨i,hi,rfl⟩ := List.getElem_of_mem hx
    exact ih i hi (by omega)

/-! ### What is read is of no great length -/
theorem i64_idem (n : Int) : IntKind.i64.wrap (IntKind.i64.wrap n) = IntKind.i64.wrap n := by
  have : -9223372036854775808 ≤ IntKind.i64.wrap n ∧ IntKind.i64.wrap n ≤ 9223372036854775807 := by
    unfold IntKind.wrap;simp [IntKind.bits,IntKind.signed];split <;> omega
  exact i64_wrap (by omega)
theorem cn1_good {d : Nat} {v : Int} {flex : Bool} (k : Int) (sub : List Fld) (null : Bool) (x : Tree) (hp : k = 10 → GoodP d sub (cnP d v flex sub x)) : Good1 (GoodP d) k sub (cn1 (cnP d v flex) k sub null x) := by
  unfold cn1
  by_cases h0 : k = 0
  · rw [if_pos h0];exact good1_num (by omega) (by omega)
  rw [if_neg h0]
  by_cases h7 : k = 7
  · rw [if_pos h7];exact good1_oct (by rw [uuidS_len];omega) (by omega)
  rw [if_neg h7]
  by_cases h8 : k = 8 ∨ k = 9
  · rw [if_pos h8]
    refine good1_oct ?_ (by omega)
    split
    · simp
    · simp only [wholeS,List.length_take];omega
  rw [if_neg h8]
  by_cases h10 : k = 10
  · rw [if_pos h10]
    refine ⟨fun h => by omega,?_,fun _ => hp h10⟩
    cases d <;> simp [cnP,Tree.zero,Tree.s]
  rw [if_neg h10]
  refine good1_num (fun h4 => ?_) h10
  subst h4
  exact i64_idem _
theorem cnF_good {d : Nat} {v : Int} {flex : Bool} (f : Fld) (x : Tree) (hp : f.kind = 10 ∨ f.of = 10 → ∀ y,GoodP d f.sub (cnP d v flex f.sub y)) : GoodF (GoodP d) f (cnF (cnP d v flex) v f x) := by
  unfold GoodF cnF
  by_cases h11 : f.kind = 11
  · rw [if_pos h11,if_pos h11]
    simp only [Tree.l]
    split
    · exact ⟨by simp,fun y hy => by cases hy⟩
    · refine ⟨by simp only [List.length_map,thingsS,List.length_take];omega,fun y hy => ?_⟩
      obtain ⟨z,_,rfl⟩ := List.mem_map.1 hy
      exact cn1_good _ _ _ _ fun h => hp (.inr h) z
  · rw [if_neg h11,if_neg h11]
    split
    · rename_i h10
      split
      · exact ⟨fun _ => rfl,by simp [Tree.s],fun _ => GoodP_none true d f.sub⟩
      · exact ⟨fun h => by omega,by cases d <;> simp [cnP,Tree.s,Tree.zero],fun _ => hp (.inl h10.1) x⟩
    · exact cn1_good _ _ _ _ fun h => hp (.inl h) x
theorem cnL_all3 {R : Fld → Tree → Prop} {pc : List Fld → Tree → Tree} {dp : List Fld → Tree} {v : Int} {t : Tree} : ∀ (fs : List Fld) (i : Nat),(∀ f ∈ fs,(∀ x,R f (cnF pc v f x)) ∧ R f (dfF dp f)) → All3 R fs (cnL pc dp v t fs i)
  | [],_,_ => .nil
  | f :: fs,i,h => .cons (by split;exact (h f (by simp)).1 _;exact (h f (by simp)).2) (cnL_all3 fs (i + 1) fun g hg => h g (by simp [hg]))
theorem cnP_good (v : Int) (flex : Bool) : ∀ (d : Nat) (fs : List Fld) (t : Tree),okDf d fs = true → GoodP d fs (cnP d v flex fs t)
  | 0,_,_,_ => trivial
  | d + 1,fs,t,h => by
    refine ⟨?_,?_⟩
    · have := goodL_of (G := GoodP d) (n := 0) (s := []) (nl := false) (u := if flex = true then (unknownS fs t.u).map fun u => (u.1,wholeS u.2) else []) [] (cnL_all3 (R := GoodF (GoodP d)) (pc := cnP d v flex) (dp := dfP d) (v := v) (t := t) fs 0 fun f hf => by
        obtain ⟨h4,hs⟩ := okDf_f h hf
        exact ⟨fun x => cnF_good f x fun hk y => cnP_good v flex d f.sub y (hs hk),dfF_good (fun hk => ⟨dfP_good d f.sub (hs (.inl hk)),(dfP_sn d f.sub).1⟩) h4⟩)
      exact this
    · show GoodU (if flex = true then (unknownS fs t.u).map fun u => (u.1,wholeS u.2) else [])
      split
      · refine ⟨by rw [List.length_map];exact unknownS_len' fs t.u,?_,fun y hy => ?_⟩
        · rw [List.map_map]
          have h1 := (unknownS_spec fs t.u).1
          have : (unknownS fs t.u).map ((fun x => x.1) ∘ fun u => (u.1,wholeS u.2)) = (unknownS fs t.u).map (·.1) := rfl
          rw [this]
          exact List.nodup_iff_pairwise_ne.2 (List.pairwise_map.2 (h1.imp fun h => by omega))
        · obtain ⟨z,_,rfl⟩ := List.mem_map.1 hy
          simp only [wholeS,List.length_take];omega
      · exact ⟨by simp,by simp,fun y hy => by cases hy⟩

/-! ### It is told as it was -/
theorem tlL_get (tp : List Fld → Tree → Tree) (t : Tree) : ∀ (fs : List Fld) (i k : Nat) (h : k < fs.length),(tlL tp t fs i).getD k .zero = tlF tp fs[k] (t.at (i + k))
  | f :: fs,i,0,h => by simp [tlL]
  | f :: fs,i,k + 1,h => by
    have := tlL_get tp t fs (i + 1) k (by simpa using h)
    simp only [tlL,List.getD_cons_succ,List.getElem_cons_succ]
    rw [this,show i + 1 + k = i + (k + 1) by omega]
theorem sortT_rising {u : List TagD} (h : u.Pairwise fun a b => a.1 < b.1) : sortT u = u :=
  List.mergeSort_of_pairwise (h.imp fun h => by simpa using Nat.le_of_lt h)
def okT : List Fld → Bool
  | fs => fs.all fun f => decide ((0 ≤ f.null → 8 ≤ f.kind) ∧ ¬ (f.kind = 10 ∧ 0 ≤ f.null))
def okTs : Nat → List Fld → Bool
  | 0,_ => true
  | d + 1,fs => okT fs && fs.all fun f => okTs d f.sub
theorem mod2_if (n : Int) : (if n % 2 = 1 then (1 : Int) else 0) = n % 2 := by split <;> omega
theorem IntKind_idem (k : IntKind) (hk : k = .i8 ∨ k = .i16 ∨ k = .i32 ∨ k = .u16) (n : Int) : k.wrap (k.wrap n) = k.wrap n := by
  rcases hk with h | h | h | h <;> subst h <;> (unfold IntKind.wrap;simp [IntKind.bits,IntKind.signed]) <;> (try split) <;> (try split) <;> omega
theorem wrapN_kind (k : Int) (hk : numK k) (n : Int) (h4 : IntKind.i64.wrap n = n) : wrapN k ((kindK k).wrap n) = numS k n := by
  rcases hk with h | h | h | h | h | h <;> subst h <;> simp [wrapN,kindK,numS]
  · exact IntKind_idem _ (by simp) _
  · exact IntKind_idem _ (by simp) _
  · exact IntKind_idem _ (by simp) _
  · exact h4
  · exact IntKind_idem _ (by simp) _
  · exact h4
theorem Tree.at_mk (n : Int) (s : List UInt8) (b : Bool) (l : List Tree) (u : List TagD) (i : Nat) : (Tree.mk n s b l u).at i = l.getD i .zero := rfl
theorem map_getD {α β : Type} (f : α → β) (l : List α) (i : Nat) (h : i < l.length) (z : β) : (l.map f).getD i z = f l[i] := by
  simp [List.getD_eq_getElem?_getD,h]
section
variable {d : Nat} {v : Int} {flex : Bool}
theorem tl1_told (T : List Fld → Tree → Tree → Prop) (tp : List Fld → Tree → Tree) (k : Int) (sub : List Fld) (x : Tree) (hx : N64 x) (hk : k = 0 ∨ numK k ∨ (7 ≤ k ∧ k ≤ 10)) (hp : k = 10 → T sub x (tp sub (cnP d v flex sub x))) : Told1 T k sub x (tl1 tp k sub (cn1 (cnP d v flex) k sub false x)) := by
  unfold Told1
  by_cases h8 : k = 8
  · subst h8;simp [tl1,cn1,Tree.oct,Tree.s]
  by_cases h9 : k = 9
  · subst h9;simp [tl1,cn1,Tree.oct,Tree.s,Tree.null]
  rw [if_neg (by omega)]
  by_cases h7 : k = 7
  · subst h7;simp [tl1,cn1,Tree.oct,Tree.s,uuidS_idem]
  rw [if_neg h7]
  by_cases h10 : k = 10
  · subst h10;rw [if_pos rfl];simpa [tl1,cn1] using hp rfl
  rw [if_neg h10]
  by_cases h0 : k = 0
  · subst h0
    have : (x.n % 2) % 2 = x.n % 2 := by omega
    simp [tl1,cn1,Tree.num,Tree.n,numS,mod2_if,this]
  · have hn : numK k := by rcases hk with h | h | h <;> first | exact absurd h h0 | exact h | omega
    have e : tl1 tp k sub (cn1 (cnP d v flex) k sub false x) = .num (wrapN k ((kindK k).wrap x.n)) := by simp [tl1,cn1,h0,h7,h8,h9,h10,Tree.num,Tree.n]
    rw [e,wrapN_kind k hn x.n hx.n];rfl
theorem tl1_null (k : Int) (sub : List Fld) (x : Tree) (tp : List Fld → Tree → Tree) (h : k = 8 ∨ k = 10) (hp : ∀ x,(tp sub x).null = false) : (tl1 tp k sub x).null = false := by
  rcases h with h | h <;> subst h
  · simp [tl1,Tree.oct,Tree.null]
  · simpa [tl1] using hp x
theorem tlP_null (d : Nat) (fs : List Fld) (x : Tree) : (tlP d fs x).null = false := by cases d <;> rfl
theorem tlF_told (T : List Fld → Tree → Tree → Prop) (f : Fld) (x : Tree) (hx : N64 x) (hk : f.kind = 11 ∨ f.kind = 0 ∨ numK f.kind ∨ (7 ≤ f.kind ∧ f.kind ≤ 10)) (ho : f.of = 0 ∨ numK f.of ∨ (7 ≤ f.of ∧ f.of ≤ 10)) (hn : ¬ (f.kind = 10 ∧ 0 ≤ f.null)) (ht : 0 ≤ f.null → 8 ≤ f.kind)
    (hp : ∀ y,N64 y → T f.sub y (tlP d f.sub (cnP d v flex f.sub y))) : ToldF T v f x (tlF (tlP d) f (cnF (cnP d v flex) v f x)) := by
  by_cases h11 : f.kind = 11
  · have e : tlF (tlP d) f (cnF (cnP d v flex) v f x) = .mk 0 [] (nilS f v (if nullS f v x = true then -1 else ((thingsS x.l).length : Nat))) ((if nilS f v (if nullS f v x = true then -1 else ((thingsS x.l).length : Nat)) = true then [] else (if nullS f v x = true then [] else (thingsS x.l).map (cn1 (cnP d v flex) f.of f.sub false))).map (tl1 (tlP d) f.of f.sub)) [] := by
      unfold tlF cnF
      rw [if_pos h11,if_neg (by omega),if_pos h11];rfl
    rw [e]
    refine ⟨fun h => ?_,fun h => ?_⟩
    · rcases h with h | h | h
      · omega
      · omega
      · simp only [mayS,Bool.and_eq_true,decide_eq_true_eq] at h
        exact nilS_eq f x _ h.1
    · rw [if_pos h11,h]
      have hl : (if nilS f v (if (false : Bool) = true then -1 else ((thingsS x.l).length : Nat)) = true then [] else (if (false : Bool) = true then ([] : List Tree) else (thingsS x.l).map (cn1 (cnP d v flex) f.of f.sub false))) = (thingsS x.l).map (cn1 (cnP d v flex) f.of f.sub false) := by
        simp only [Bool.false_eq_true,if_false]
        split
        · rename_i hni
          have : (thingsS x.l).length = 0 := by
            unfold nilS at hni
            split at hni
            · simp only [Bool.and_eq_true,decide_eq_true_eq] at hni;omega
            · simp only [decide_eq_true_eq] at hni;omega
          rw [List.length_eq_zero_iff.1 this];rfl
        · rfl
      rw [hl]
      refine ⟨by simp [Tree.l],fun i hi => ?_⟩
      have hat : (Tree.mk 0 [] (nilS f v (if (false : Bool) = true then -1 else ((thingsS x.l).length : Nat))) (((thingsS x.l).map (cn1 (cnP d v flex) f.of f.sub false)).map (tl1 (tlP d) f.of f.sub)) []).at i = tl1 (tlP d) f.of f.sub (cn1 (cnP d v flex) f.of f.sub false (thingsS x.l)[i]) := by
        rw [Tree.at_mk,map_getD _ _ _ (by rw [List.length_map];exact hi),List.getElem_map]
      have hm : N64 (thingsS x.l)[i] := hx.l _ (List.mem_of_mem_take (List.getElem_mem hi))
      rw [hat]
      exact ⟨fun h => tl1_null _ _ _ _ h fun y => tlP_null d f.sub y,tl1_told T (tlP d) f.of f.sub _ hm ho fun _ => hp _ hm⟩
  · have hk' : f.kind = 0 ∨ numK f.kind ∨ (7 ≤ f.kind ∧ f.kind ≤ 10) := by
      rcases hk with h | h
      · exact absurd h h11
      · exact h
    have ec : cnF (cnP d v flex) v f x = cn1 (cnP d v flex) f.kind f.sub (nullS f v x) x := by unfold cnF;rw [if_neg h11,if_neg hn]
    rw [ec]
    refine ⟨fun h => ?_,fun h => ?_⟩
    · by_cases h8 : f.kind = 8
      · by_cases hnl : 0 ≤ f.null
        · simp [tlF,cn1,h8,hnl,Tree.oct,Tree.null]
        · simp [tlF,tl1,cn1,h8,hnl,Tree.oct,Tree.null,nullS]
      by_cases h10 : f.kind = 10
      · have hnl : ¬ 0 ≤ f.null := fun h' => hn ⟨h10,h'⟩
        have e : tlF (tlP d) f (cn1 (cnP d v flex) f.kind f.sub (nullS f v x) x) = tlP d f.sub (cnP d v flex f.sub x) := by simp [tlF,tl1,cn1,h10]
        rw [e,tlP_null];simp [nullS,hnl]
      have hm : mayS f v = true := by rcases h with h | h | h <;> first | exact absurd h h8 | exact absurd h h10 | exact h
      simp only [mayS,Bool.and_eq_true,decide_eq_true_eq] at hm
      have h8' := ht hm.1
      have h9 : f.kind = 9 := by
        rcases hk' with h | h | h
        · omega
        · unfold numK at h;omega
        · omega
      simp [tlF,tl1,cn1,h9,Tree.oct,Tree.null]
    · rw [if_neg h11,h]
      by_cases h8 : f.kind = 8 ∧ 0 ≤ f.null
      · have e : tlF (tlP d) f (cn1 (cnP d v flex) f.kind f.sub false x) = .oct false (wholeS x.s) := by simp [tlF,cn1,h8,Tree.oct,Tree.null,Tree.s]
        rw [e];unfold Told1;rw [if_pos (.inl h8.1)];rfl
      · have e : tlF (tlP d) f (cn1 (cnP d v flex) f.kind f.sub false x) = tl1 (tlP d) f.kind f.sub (cn1 (cnP d v flex) f.kind f.sub false x) := by
          unfold tlF;rw [if_neg h8,if_neg h11]
        rw [e]
        exact tl1_told T (tlP d) f.kind f.sub x hx hk' fun _ => hp x hx
theorem tlF_df (D : List Fld → Tree → Prop) (f : Fld) (hk : f.kind = 11 ∨ f.kind = 0 ∨ numK f.kind ∨ (7 ≤ f.kind ∧ f.kind ≤ 10)) (hn : ¬ (f.kind = 10 ∧ 0 ≤ f.null)) (hp : D f.sub (tlP d f.sub ((dfP d f.sub).setNull false))) : DfF D f (tlF (tlP d) f (dfF (dfP d) f)) := by
  unfold DfF
  by_cases h8 : f.kind = 8
  · rw [if_pos h8]
    by_cases hnl : 0 ≤ f.null <;> simp [tlF,tl1,dfF,h8,hnl,Tree.oct,Tree.null,Tree.s]
  rw [if_neg h8]
  by_cases h7 : f.kind = 7
  · rw [if_pos h7];simp [tlF,tl1,dfF,h7,Tree.oct,Tree.s,uuidS_idem]
  rw [if_neg h7]
  by_cases h9 : f.kind = 9
  · rw [if_pos (.inl h9)];simp [tlF,tl1,dfF,h9,Tree.oct,Tree.null,Tree.s,Tree.l]
  by_cases h11 : f.kind = 11
  · rw [if_pos (.inr h11)];simp [tlF,dfF,h11,Tree.null,Tree.s,Tree.l]
  rw [if_neg (by omega)]
  by_cases h10 : f.kind = 10
  · rw [if_pos h10]
    have hnl : ¬ 0 ≤ f.null := fun h => hn ⟨h10,h⟩
    refine ⟨fun h => absurd h hnl,fun _ => ?_⟩
    have e : tlF (tlP d) f (dfF (dfP d) f) = tlP d f.sub ((dfP d f.sub).setNull false) := by simp [tlF,tl1,dfF,h10,hnl]
    rw [e];exact hp
  rw [if_neg h10]
  by_cases h0 : f.kind = 0
  · simp [tlF,tl1,dfF,h0,Tree.num,Tree.n,numS,mod2_if]
  · simp [tlF,tl1,dfF,h0,h7,h8,h9,h10,h11,Tree.num,Tree.n,numS]
end
theorem df_told (v : Int) (flex : Bool) : ∀ (d : Nat) (fs : List Fld),okR d v flex fs = true → okTs d fs = true → DfP (d + 1) fs (tlP (d + 1) fs ((dfP (d + 1) fs).setNull false)) := by
  intro d
  induction d with
  | zero =>
    intro fs h _
    have hnil : fs = [] := by simpa [okR] using h
    subst hnil
    exact ⟨sortT_rising List.Pairwise.nil,fun i h => by cases h⟩
  | succ d ih =>
    intro fs h hT
    refine ⟨sortT_rising List.Pairwise.nil,fun i hi => ?_⟩
    obtain ⟨g1,g2,g3,-,g5,g6⟩ := okR_el h (List.getElem_mem hi)
    simp only [okTs,okT,Bool.and_eq_true,List.all_eq_true,decide_eq_true_eq] at hT
    have g4 := (hT.1 _ (List.getElem_mem hi)).2
    have e : (tlP (d + 1 + 1) fs ((dfP (d + 1 + 1) fs).setNull false)).at i = tlF (tlP (d + 1)) fs[i] (dfF (dfP (d + 1)) fs[i]) := by
      rw [tlP,Tree.at_mk,tlL_get _ _ fs 0 i hi,Nat.zero_add]
      congr 1
      simp only [dfP,Tree.setNull,Tree.at_mk,Tree.l]
      exact map_getD _ _ _ hi _
    rw [e]
    exact tlF_df _ _ g2 g4 (ih fs[i].sub g5 (hT.2 _ (List.getElem_mem hi)))
theorem told_cn (v : Int) (flex : Bool) : ∀ (d : Nat) (fs : List Fld) (t : Tree),okR d v flex fs = true → okTs d fs = true → N64 t → ToldP (d + 1) v flex fs t (tlP (d + 1) fs (cnP (d + 1) v flex fs t)) := by
  have hu : ∀ (d : Nat) (fs : List Fld) (t : Tree),(tlP (d + 1) fs (cnP (d + 1) v flex fs t)).u = (if flex = true then (unknownS fs t.u).map fun u => (u.1,wholeS u.2) else []) := fun d fs t => by
    show sortT (if flex = true then (unknownS fs t.u).map fun u => (u.1,wholeS u.2) else []) = _
    refine sortT_rising ?_
    split
    · exact List.pairwise_map.2 (unknownS_spec fs t.u).1
    · exact List.Pairwise.nil
  have hl : ∀ (d : Nat) (fs : List Fld) (t : Tree),(tlP (d + 1) fs (cnP (d + 1) v flex fs t)).l.length = fs.length := fun d fs t => tlL_len _ _ _ _
  intro d
  induction d with
  | zero =>
    intro fs t h _ _
    have hnil : fs = [] := by simpa [okR] using h
    subst hnil
    exact ⟨hl 0 [] t,hu 0 [] t,fun i h => by cases h⟩
  | succ d ih =>
    intro fs t h hT hN
    refine ⟨hl _ _ _,hu _ _ _,fun i hi => ?_⟩
    obtain ⟨g1,g2,g3,-,g5,g6⟩ := okR_el h (List.getElem_mem hi)
    simp only [okTs,okT,Bool.and_eq_true,List.all_eq_true,decide_eq_true_eq] at hT
    have g4 := (hT.1 _ (List.getElem_mem hi)).2
    have e : (tlP (d + 1 + 1) fs (cnP (d + 1 + 1) v flex fs t)).at i = tlF (tlP (d + 1)) fs[i] (if fs[i].tag < 0 ∧ hasS fs[i] v = true then cnF (cnP (d + 1) v flex) v fs[i] (t.at i) else dfF (dfP (d + 1)) fs[i]) := by
      rw [tlP,Tree.at_mk,tlL_get _ _ fs 0 i hi,Nat.zero_add]
      congr 1
      have := cnL_get (cnP (d + 1) v flex) (dfP (d + 1)) v t fs 0 i hi
      rw [Nat.zero_add] at this
      exact this
    rw [e]
    have hlv : liveS (d + 1 + 1) v flex fs[i] (t.at i) = hasS fs[i] v := by
      have : ¬ 0 ≤ fs[i].tag := by omega
      simp [liveS,g1,this]
    rw [hlv]
    by_cases hh : hasS fs[i] v = true
    · rw [if_pos hh,if_pos ⟨g1,hh⟩]
      exact tlF_told (d := d + 1) (v := v) (flex := flex) _ fs[i] (t.at i) (hN.at i) g2 g3 g4 (hT.1 _ (List.getElem_mem hi)).1 fun y hy => ih fs[i].sub y g5 (hT.2 _ (List.getElem_mem hi)) hy
    · rw [if_neg hh,if_neg fun h => hh h.2]
      exact tlF_df _ _ g2 g4 (df_told v flex d fs[i].sub g5 (hT.2 _ (List.getElem_mem hi)))
end Ms

namespace Ms
open Go

def tagAt : List Fld → Nat → Nat → Option (Nat × Fld)
  | [],_,_ => none
  | f :: fs,i,k => if f.tag = k then some (i,f) else tagAt fs (i + 1) k
def tagX (fs : List Fld) (k : Nat) : Option (Nat × Fld) := tagAt fs 0 k
theorem tagAt_none {k : Nat} : ∀ {fs : List Fld} {i : Nat},(∀ f ∈ fs,f.tag ≠ k) → tagAt fs i k = none
  | [],_,_ => rfl
  | f :: fs,i,h => by
    rw [tagAt,if_neg (h f (by simp))]
    exact tagAt_none fun g hg => h g (by simp [hg])
theorem tagX_none {fs : List Fld} {k : Nat} (h : ∀ f ∈ fs,f.tag ≠ k) : tagX fs k = none := tagAt_none h
theorem tag_known {fs : List Fld} {k : Nat} (h : knownS fs ≤ k) : ∀ f ∈ fs,f.tag ≠ k := by
  have : ∀ (fs : List Fld) (n : Nat),n ≤ fs.foldl (fun n f => if 0 ≤ f.tag then max n (f.tag.toNat + 1) else n) n ∧ ∀ f ∈ fs,0 ≤ f.tag → f.tag.toNat + 1 ≤ fs.foldl (fun n f => if 0 ≤ f.tag then max n (f.tag.toNat + 1) else n) n := by
    intro fs
    induction fs with
    | nil => intro n;exact ⟨Nat.le_refl _,fun f h => by cases h⟩
    | cons f fs ih =>
      intro n
      rw [List.foldl_cons]
      obtain ⟨h1,h2⟩ := ih (if 0 ≤ f.tag then max n (f.tag.toNat + 1) else n)
      refine ⟨?_,fun g hg h0 => ?_⟩
      · refine Nat.le_trans ?_ h1
        split <;> omega
      · rcases List.mem_cons.1 hg with rfl | hg
        · rw [if_pos h0] at h1 ⊢
          omega
        · exact h2 g hg h0
  intro f hf e
  have h2 := (this fs 0).2 f hf (by omega)
  have h3 : fs.foldl (fun n f => if 0 ≤ f.tag then max n (f.tag.toNat + 1) else n) 0 ≤ k := h
  omega

section
variable (pt : List Fld → St → Tree × St) (v : Int) (flex : Bool) (fs : List Fld)
def rdTg : Nat → List Tree → List TagD → St → (List Tree × List TagD) × St
  | 0,xs,u,st => ((xs,u),st)
  | n + 1,xs,u,st =>
    match tagX fs (rdUv st).1 with
    | some p =>
      if (rdF pt v flex p.2 (some (rdSpan (rdUv (rdUv st).2).1 (rdUv (rdUv st).2).2).1)).2 = none then ((xs,u),none)
      else rdTg n (xs.set p.1 (rdF pt v flex p.2 (some (rdSpan (rdUv (rdUv st).2).1 (rdUv (rdUv st).2).2).1)).1) u (rdSpan (rdUv (rdUv st).2).1 (rdUv (rdUv st).2).2).2
    | none => rdTg n xs (rdTag u st).1 (rdTag u st).2
def rdTgs (xs : List Tree) (st : St) : (List Tree × List TagD) × St := rdTg pt v flex fs (rdUv st).1 xs [] (rdUv st).2
end
def rdM (d : Nat) (v : Int) (flex : Bool) (fs : List Fld) (st : St) : Tree × St :=
  if flex = true then
    (.mk 0 [] false (rdTgs (rdP d v true) v true fs (rdL (rdP d v true) (dfP d) v true fs st).1 (rdL (rdP d v true) (dfP d) v true fs st).2).1.1 (rdTgs (rdP d v true) v true fs (rdL (rdP d v true) (dfP d) v true fs st).1 (rdL (rdP d v true) (dfP d) v true fs st).2).1.2,
      (rdTgs (rdP d v true) v true fs (rdL (rdP d v true) (dfP d) v true fs st).1 (rdL (rdP d v true) (dfP d) v true fs st).2).2)
  else rdP (d + 1) v false fs st
theorem rdM_t {d : Nat} {v : Int} {fs : List Fld} {st s' e : St} {xs ys : List Tree} {u : List TagD} (h : rdL (rdP d v true) (dfP d) v true fs st = (xs,s')) (hg : rdTgs (rdP d v true) v true fs xs s' = ((ys,u),e)) : rdM d v true fs st = (.mk 0 [] false ys u,e) := by
  unfold rdM
  rw [if_pos rfl,h]
  simp only [hg]
theorem rdM_f {d : Nat} {v : Int} {fs : List Fld} {st : St} : rdM d v false fs st = rdP (d + 1) v false fs st := by
  unfold rdM;rw [if_neg (by decide)]
theorem rdM_bad {d : Nat} {v : Int} {flex : Bool} {fs : List Fld} {st : St} (h : (rdL (rdP d v flex) (dfP d) v flex fs st).2 = none) : (rdM d v flex fs st).2 = none := by
  cases flex with
  | false => rw [rdM_f];exact rdP_bad h
  | true =>
    unfold rdM
    rw [if_pos rfl]
    simp only [h]
    rfl
theorem rdM_badT {d : Nat} {v : Int} {fs : List Fld} {st s' : St} {xs : List Tree} (h : rdL (rdP d v true) (dfP d) v true fs st = (xs,s')) (hb : (rdTgs (rdP d v true) v true fs xs s').2 = none) : (rdM d v true fs st).2 = none := by
  unfold rdM
  rw [if_pos rfl,h]
  exact hb
section
variable {pt : List Fld → St → Tree × St} {v : Int} {flex : Bool} {fs : List Fld} {xs : List Tree} {u : List TagD} {st : St} {n k i : Nat} {f : Fld}
theorem rdTg_known {x : Tree} {s' : St} (hk : (rdUv st).1 = k) (h : tagX fs k = some (i,f)) (hx : rdF pt v flex f (some (rdSpan (rdUv (rdUv st).2).1 (rdUv (rdUv st).2).2).1) = (x,s')) (hs : s' ≠ none) :
    rdTg pt v flex fs (n + 1) xs u st = rdTg pt v flex fs n (xs.set i x) u (rdSpan (rdUv (rdUv st).2).1 (rdUv (rdUv st).2).2).2 := by
  rw [rdTg,hk,h]
  simp only [hx]
  rw [if_neg hs]
theorem rdTg_bad (hk : (rdUv st).1 = k) (h : tagX fs k = some (i,f)) (hx : (rdF pt v flex f (some (rdSpan (rdUv (rdUv st).2).1 (rdUv (rdUv st).2).2).1)).2 = none) :
    (rdTg pt v flex fs (n + 1) xs u st).2 = none := by
  rw [rdTg,hk,h]
  simp only
  rw [if_pos hx]
theorem rdTg_unk (h : tagX fs (rdUv st).1 = none) : rdTg pt v flex fs (n + 1) xs u st = rdTg pt v flex fs n xs (tagPut u ((rdUv st).1,(rdSpan (rdUv (rdUv st).2).1 (rdUv (rdUv st).2).2).1)) (rdSpan (rdUv (rdUv st).2).1 (rdUv (rdUv st).2).2).2 := by
  rw [rdTg,h]
  rfl
theorem rdTg_one {x : Tree} {o r : List UInt8} (h : tagX fs k = some (i,f)) (hk : k < 4294967296) (ho : o.length < 4294967296) (hx : rdF pt v flex f (some o) = (x,some [])) :
    rdTg pt v flex fs (n + 1) xs u (some (oneTag (k,o) ++ r)) = rdTg pt v flex fs n (xs.set i x) u (some r) := by
  have e : oneTag (k,o) ++ r = uvarS k ++ (uvarS o.length ++ (o ++ r)) := by simp [oneTag]
  have h1 : rdUv (some (oneTag (k,o) ++ r)) = (k,some (uvarS o.length ++ (o ++ r))) := by rw [e,rdUv_uvar _ _ hk]
  have h2 : rdUv (some (uvarS o.length ++ (o ++ r))) = (o.length,some (o ++ r)) := rdUv_uvar _ _ ho
  have h3 : rdSpan ((rdUv (rdUv (some (oneTag (k,o) ++ r))).2).1 : Nat) (rdUv (rdUv (some (oneTag (k,o) ++ r))).2).2 = (o,some r) := by
    rw [h1];simp only [h2];exact rdSpan_app o r
  rw [rdTg_known (k := k) (x := x) (s' := some []) (by rw [h1]) h (by rw [h3];exact hx) (by simp),h3]
theorem rdTg_unks : ∀ (l acc : List TagD) (r : List UInt8),(∀ x ∈ l,tagX fs x.1 = none) → (∀ x ∈ l,x.1 < 4294967296) → (∀ x ∈ l,∀ y ∈ acc,y.1 ≠ x.1) → l.Pairwise (fun a b => a.1 ≠ b.1) →
    rdTg pt v flex fs l.length xs acc (some (l.flatMap unkT ++ r)) = ((xs,acc ++ l.map fun u => (u.1,wholeS u.2)),some r)
  | [],acc,r,_,_,_,_ => by simp [rdTg]
  | x :: l,acc,r,h0,h1,h2,h3 => by
    rw [List.length_cons,List.flatMap_cons,List.append_assoc]
    have hu : (rdUv (some (unkT x ++ (l.flatMap unkT ++ r)))).1 = x.1 := by
      have e : unkT x ++ (l.flatMap unkT ++ r) = uvarS x.1 ++ (uvarS (wholeS x.2).length ++ (wholeS x.2 ++ (l.flatMap unkT ++ r))) := by simp [unkT,oneTag]
      rw [e,rdUv_uvar _ _ (h1 x (by simp))]
    rw [rdTg,hu,h0 x (by simp)]
    simp only
    rw [rdTag_unk acc x _ (h1 x (by simp))]
    have hn : tagPut acc (x.1,wholeS x.2) = acc ++ [(x.1,wholeS x.2)] := tagPut_new fun z hz => h2 x (by simp) z hz
    simp only [hn]
    rw [List.pairwise_cons] at h3
    rw [rdTg_unks l _ r (fun y hy => h0 y (by simp [hy])) (fun y hy => h1 y (by simp [hy])) (fun y hy z hz => by
      rcases List.mem_append.1 hz with hz | hz
      · exact h2 y (by simp [hy]) z hz
      · simp only [List.mem_singleton] at hz;rw [hz];exact h3.1 y hy) h3.2]
    simp
end

/-! ### What was written is read again -/
def tgO (pw : List Fld → Int → Bool → Tree → List UInt8) (D : Nat) (v : Int) (flex : Bool) (t : Tree) (p : Nat × Nat × Fld) : List TagD := if usualS D p.2.2 (t.at p.2.1) = false then [(p.1,fieldS pw p.2.2 v flex (t.at p.2.1))] else []
def setT (pc : List Fld → Tree → Tree) (D : Nat) (v : Int) (t : Tree) (ts : List (Nat × Nat × Fld)) (xs : List Tree) : List Tree := ts.foldl (fun xs p => if usualS D p.2.2 (t.at p.2.1) = false then xs.set p.2.1 (cnF pc v p.2.2 (t.at p.2.1)) else xs) xs
theorem rdTg_tags {pr : List Fld → St → Tree × St} {pw : List Fld → Int → Bool → Tree → List UInt8} {pc : List Fld → Tree → Tree} {D : Nat} {v : Int} {flex : Bool} {fs : List Fld} {t : Tree} : ∀ (ts : List (Nat × Nat × Fld)) (n : Nat) (xs : List Tree) (u : List TagD) (r : List UInt8),
    (∀ p ∈ ts,tagX fs p.1 = some p.2 ∧ p.1 < 4294967296 ∧ (fieldS pw p.2.2 v flex (t.at p.2.1)).length < 4294967296 ∧ rdF pr v flex p.2.2 (some (fieldS pw p.2.2 v flex (t.at p.2.1))) = (cnF pc v p.2.2 (t.at p.2.1),some [])) →
    rdTg pr v flex fs ((ts.flatMap (tgO pw D v flex t)).length + n) xs u (some ((ts.flatMap (tgO pw D v flex t)).flatMap oneTag ++ r)) = rdTg pr v flex fs n (setT pc D v t ts xs) u (some r)
  | [],n,xs,u,r,_ => by simp [setT]
  | p :: ts,n,xs,u,r,h => by
    obtain ⟨h1,h2,h3,h4⟩ := h p (by simp)
    have ih := fun xs => rdTg_tags (pr := pr) (pw := pw) (pc := pc) (D := D) ts n xs u r fun q hq => h q (by simp [hq])
    rw [List.flatMap_cons]
    by_cases hu : usualS D p.2.2 (t.at p.2.1) = false
    · have e : tgO pw D v flex t p = [(p.1,fieldS pw p.2.2 v flex (t.at p.2.1))] := by unfold tgO;rw [if_pos hu]
      rw [e,List.length_append,List.flatMap_append,List.append_assoc]
      simp only [List.length_cons,List.length_nil,List.flatMap_cons,List.flatMap_nil,List.append_nil]
      rw [show 0 + 1 + (ts.flatMap (tgO pw D v flex t)).length + n = ((ts.flatMap (tgO pw D v flex t)).length + n) + 1 by omega]
      rw [rdTg_one h1 h2 h3 h4,ih]
      simp only [setT,List.foldl_cons]
      rw [if_pos hu]
    · have e : tgO pw D v flex t p = [] := by unfold tgO;rw [if_neg hu]
      rw [e,List.nil_append,ih]
      simp only [setT,List.foldl_cons]
      rw [if_neg hu]

def cnT (pt : List Fld → Tree → Tree) (dp : List Fld → Tree) (D : Nat) (v : Int) (flex : Bool) (t : Tree) : List Fld → Nat → List Tree
  | [],_ => []
  | f :: fs,i => (if liveS D v flex f (t.at i) = true then cnF pt v f (t.at i) else dfF dp f) :: cnT pt dp D v flex t fs (i + 1)
def cnM (d : Nat) (v : Int) (flex : Bool) (fs : List Fld) (t : Tree) : Tree := .mk 0 [] false (cnT (cnP d v flex) (dfP d) (d + 1) v flex t fs 0) (if flex = true then (unknownS fs t.u).map fun u => (u.1,wholeS u.2) else [])
theorem cnT_get (pc : List Fld → Tree → Tree) (dp : List Fld → Tree) (D : Nat) (v : Int) (flex : Bool) (t : Tree) : ∀ (fs : List Fld) (i k : Nat) (h : k < fs.length),(cnT pc dp D v flex t fs i).getD k .zero = if liveS D v flex fs[k] (t.at (i + k)) = true then cnF pc v fs[k] (t.at (i + k)) else dfF dp fs[k]
  | f :: fs,i,0,h => by simp [cnT]
  | f :: fs,i,k + 1,h => by
    have := cnT_get pc dp D v flex t fs (i + 1) k (by simpa using h)
    simp only [cnT,List.getD_cons_succ,List.getElem_cons_succ]
    rw [this,show i + 1 + k = i + (k + 1) by omega]
theorem cnT_f (pc : List Fld → Tree → Tree) (dp : List Fld → Tree) (D : Nat) (v : Int) (t : Tree) : ∀ (fs : List Fld) (i : Nat),cnT pc dp D v false t fs i = cnL pc dp v t fs i
  | [],_ => rfl
  | f :: fs,i => by
    rw [cnT,cnL,cnT_f pc dp D v t fs (i + 1)]
    congr 1
    simp [liveS]
def okRT (d : Nat) (v : Int) (flex : Bool) (fs : List Fld) : Bool :=
  fs.all fun f => decide ((f.kind = 11 ∨ f.kind = 0 ∨ numK f.kind ∨ (7 ≤ f.kind ∧ f.kind ≤ 10)) ∧ (f.of = 0 ∨ numK f.of ∨ (7 ≤ f.of ∧ f.of ≤ 10)) ∧ ¬ (f.kind = 10 ∧ 0 ≤ f.null)) && okR d v flex f.sub && (wideS v flex f.sub || !(hasS f v) || decide (¬ (f.kind = 10 ∨ (f.kind = 11 ∧ f.of = 10)))) && (decide (f.tag < 0) || wideS v flex f.sub || decide (¬ (f.kind = 10 ∨ (f.kind = 11 ∧ f.of = 10))))
theorem okRT_el {d : Nat} {v : Int} {flex : Bool} {fs : List Fld} (h : okRT d v flex fs = true) {f : Fld} (hf : f ∈ fs) :
    (f.kind = 11 ∨ f.kind = 0 ∨ numK f.kind ∨ (7 ≤ f.kind ∧ f.kind ≤ 10)) ∧ (f.of = 0 ∨ numK f.of ∨ (7 ≤ f.of ∧ f.of ≤ 10)) ∧ ¬ (f.kind = 10 ∧ 0 ≤ f.null) ∧ okR d v flex f.sub = true ∧ (hasS f v = true ∨ 0 ≤ f.tag → (f.kind = 10 ∨ (f.kind = 11 ∧ f.of = 10)) → wideS v flex f.sub = true) := by
  simp only [okRT,List.all_eq_true] at h
  have := h f hf
  rw [Bool.and_eq_true,Bool.and_eq_true,Bool.and_eq_true,decide_eq_true_eq] at this
  obtain ⟨⟨⟨⟨h2,h3,h4⟩,h5⟩,h6⟩,h7⟩ := this
  refine ⟨h2,h3,h4,h5,fun h8 h9 => ?_⟩
  simp only [Bool.or_eq_true,decide_eq_true_eq,Bool.not_eq_true'] at h6 h7
  rcases h8 with h8 | h8
  · rcases h6 with (h6 | h6) | h6
    · exact h6
    · rw [h8] at h6;cases h6
    · exact absurd h9 h6
  · rcases h7 with (h7 | h7) | h7
    · omega
    · exact h7
    · exact absurd h9 h7
theorem rdF_partT {d : Nat} {v : Int} {flex : Bool} {fs : List Fld} {N : Nat} {t : Tree} (h : okRT d v flex fs = true) (hs : Sized N t) {f : Fld} (hf : f ∈ fs) (hh : hasS f v = true ∨ 0 ≤ f.tag) (i : Nat) (r : List UInt8) :
    rdF (rdP (d + 1) v flex) v flex f (some (fieldS (partS (d + 1)) f v flex (t.at i) ++ r)) = (cnF (cnP (d + 1) v flex) v f (t.at i),some r) := by
  obtain ⟨g2,g3,g4,g5,g6⟩ := okRT_el h hf
  have sub : ∀ x,(f.kind = 10 ∧ x = t.at i) ∨ (f.kind = 11 ∧ f.of = 10 ∧ x ∈ (t.at i).l) → ∃ M,Sized M x := by
    intro x hx
    have ha := hs.at i
    rcases hx with ⟨_,rfl⟩ | ⟨_,_,hx⟩
    · exact ⟨_,ha⟩
    · obtain ⟨k,hk,rfl⟩ := List.getElem_of_mem hx
      exact ha.el hk
  refine rdF_field f (t.at i) r g2 g3 (fun x hx r => ?_) (fun h11 h10 x hx => ?_)
  · obtain ⟨M,hM⟩ := sub x hx
    exact (rdP_part v flex d f.sub M x g5 hM).1 r
  · obtain ⟨M,hM⟩ := sub x (.inr ⟨h11,h10,hx⟩)
    exact (rdP_part v flex d f.sub M x g5 hM).2 (g6 hh (.inr ⟨h11,h10⟩))
theorem rdM_part {d : Nat} {v : Int} {flex : Bool} {fs : List Fld} {N : Nat} {t : Tree} (h : okRT d v flex fs = true) (hs : Sized N t) (ts : List (Nat × Nat × Fld))
    (hts : tagsS (partS (d + 1)) (d + 2) fs v true t = ts.flatMap (tgO (partS (d + 1)) (d + 2) v true t)) (hset : setT (cnP (d + 1) v true) (d + 2) v t ts (cnL (cnP (d + 1) v true) (dfP (d + 1)) v t fs 0) = cnT (cnP (d + 1) v true) (dfP (d + 1)) (d + 2) v true t fs 0)
    (htf : ∀ p ∈ ts,tagX fs p.1 = some p.2 ∧ p.1 < 4294967296 ∧ p.2.2 ∈ fs ∧ 0 ≤ p.2.2.tag ∧ (fieldS (partS (d + 1)) p.2.2 v true (t.at p.2.1)).length < 4294967296) (hl : ts.length ≤ 1000) :
    rdM (d + 1) v flex fs (some (partS (d + 2) fs v flex t)) = (cnM (d + 1) v flex fs t,some []) := by
  have hu : ∀ x ∈ t.u,x.1 < 4294967296 := by
    cases hs with
    | mk ns hl he hk hN => exact hk
  have hp := fun r => rdL_plain (pr := rdP (d + 1) v flex) (pw := partS (d + 1)) (pc := cnP (d + 1) v flex) (flex := flex) (dfP (d + 1)) t fs 0 r fun f hf hh i r => rdF_partT h hs hf (.inl hh) i r
  rw [partS_eq]
  unfold partT
  rw [plainS_L]
  cases flex with
  | false =>
    rw [if_neg (by decide),rdM_f,rdP,if_neg (by decide)]
    have := hp []
    rw [List.append_nil] at this
    rw [this]
    unfold cnM
    rw [cnT_f,if_neg (by decide)]
  | true =>
    rw [if_pos rfl,hts]
    have hun := unknownS_spec fs t.u
    have hul := unknownS_len' fs t.u
    have htl : (ts.flatMap (tgO (partS (d + 1)) (d + 2) v true t)).length ≤ ts.length := by
      have : ∀ l : List (Nat × Nat × Fld),(l.flatMap (tgO (partS (d + 1)) (d + 2) v true t)).length ≤ l.length := by
        intro l
        induction l with
        | nil => simp
        | cons p l ih =>
          rw [List.flatMap_cons,List.length_append,List.length_cons]
          have : (tgO (partS (d + 1)) (d + 2) v true t p).length ≤ 1 := by unfold tgO;split <;> simp
          omega
      exact this ts
    refine rdM_t (hp _) ?_
    unfold rdTgs
    rw [rdUv_uvar _ _ (by omega)]
    simp only
    rw [rdTg_tags (pr := rdP (d + 1) v true) (pc := cnP (d + 1) v true) ts _ _ _ _ fun p hp => ?_]
    · rw [hset]
      have := rdTg_unks (pt := rdP (d + 1) v true) (v := v) (flex := true) (fs := fs) (xs := cnT (cnP (d + 1) v true) (dfP (d + 1)) (d + 2) v true t fs 0) (unknownS fs t.u) [] [] (fun x hx => tagX_none (tag_known (hun.2 x hx).2)) (fun x hx => hu x (hun.2 x hx).1) (fun _ _ _ h => by cases h) (hun.1.imp fun h => by omega)
      rw [List.append_nil,List.nil_append] at this
      rw [this]
      simp
    · obtain ⟨h1,h2,h3,h4,h5⟩ := htf p hp
      have h6 := rdF_partT h hs h3 (.inr h4) p.2.1 []
      rw [List.append_nil] at h6
      exact ⟨h1,h2,h5,h6⟩
theorem cnT_all3 {R : Fld → Tree → Prop} {pc : List Fld → Tree → Tree} {dp : List Fld → Tree} {D : Nat} {v : Int} {flex : Bool} {t : Tree} : ∀ (fs : List Fld) (i : Nat),(∀ f ∈ fs,(∀ x,R f (cnF pc v f x)) ∧ R f (dfF dp f)) → All3 R fs (cnT pc dp D v flex t fs i)
  | [],_,_ => .nil
  | f :: fs,i,h => .cons (by split;exact (h f (by simp)).1 _;exact (h f (by simp)).2) (cnT_all3 fs (i + 1) fun g hg => h g (by simp [hg]))
theorem cnM_good (v : Int) (flex : Bool) (d : Nat) (fs : List Fld) (t : Tree) (h : okDf (d + 1) fs = true) : GoodP (d + 1) fs (cnM d v flex fs t) := by
  refine ⟨?_,(cnP_good v flex (d + 1) fs t h).2⟩
  · have := goodL_of (G := GoodP d) (n := 0) (s := []) (nl := false) (u := if flex = true then (unknownS fs t.u).map fun u => (u.1,wholeS u.2) else []) [] (cnT_all3 (R := GoodF (GoodP d)) (pc := cnP d v flex) (dp := dfP d) (D := d + 1) (v := v) (flex := flex) (t := t) fs 0 fun f hf => by
      obtain ⟨h4,hs⟩ := okDf_f h hf
      exact ⟨fun x => cnF_good f x fun hk y => cnP_good v flex d f.sub y (hs hk),dfF_good (fun hk => ⟨dfP_good d f.sub (hs (.inl hk)),(dfP_sn d f.sub).1⟩) h4⟩)
    exact this
theorem told_cnM (v : Int) (flex : Bool) (d : Nat) (fs : List Fld) (t : Tree) (h : okRT d v flex fs = true) (hT : okTs (d + 1) fs = true) (hN : N64 t) : ToldP (d + 2) v flex fs t (tlP (d + 2) fs (cnM (d + 1) v flex fs t)) := by
  refine ⟨tlL_len _ _ _ _,?_,fun i hi => ?_⟩
  · show sortT (if flex = true then (unknownS fs t.u).map fun u => (u.1,wholeS u.2) else []) = _
    refine sortT_rising ?_
    split
    · exact List.pairwise_map.2 (unknownS_spec fs t.u).1
    · exact List.Pairwise.nil
  obtain ⟨g2,g3,g4,g5,g6⟩ := okRT_el h (List.getElem_mem hi)
  simp only [okTs,okT,Bool.and_eq_true,List.all_eq_true,decide_eq_true_eq] at hT
  have e : (tlP (d + 2) fs (cnM (d + 1) v flex fs t)).at i = tlF (tlP (d + 1)) fs[i] (if liveS (d + 2) v flex fs[i] (t.at i) = true then cnF (cnP (d + 1) v flex) v fs[i] (t.at i) else dfF (dfP (d + 1)) fs[i]) := by
    rw [tlP,Tree.at_mk,tlL_get _ _ fs 0 i hi,Nat.zero_add]
    congr 1
    have := cnT_get (cnP (d + 1) v flex) (dfP (d + 1)) (d + 2) v flex t fs 0 i hi
    rw [Nat.zero_add] at this
    exact this
  rw [e]
  by_cases hh : liveS (d + 2) v flex fs[i] (t.at i) = true
  · rw [if_pos hh,if_pos hh]
    refine tlF_told (d := d + 1) (v := v) (flex := flex) _ fs[i] (t.at i) (hN.at i) g2 g3 g4 (hT.1 _ (List.getElem_mem hi)).1 fun y hy => told_cn v flex d fs[i].sub y g5 (hT.2 _ (List.getElem_mem hi)) hy
  · rw [if_neg hh,if_neg hh]
    exact tlF_df _ _ g2 g4 (df_told v flex d fs[i].sub g5 (hT.2 _ (List.getElem_mem hi)))
def LoopT (l : List (Nat × Value)) (ri : Nat) (I : Nat → World → Prop) (ρ : Regs) (w : World) : Prop := Holds l ρ ∧ ∃ j : Nat,ρ ri = .int .u32 j ∧ I j w
theorem rdL_tg {pt : List Fld → St → Tree × St} {dp : List Fld → Tree} {v : Int} {flex : Bool} {f : Fld} {fs : List Fld} {s : St} (h : 0 ≤ f.tag) : rdL pt dp v flex (f :: fs) s = (dfF dp f :: (rdL pt dp v flex fs s).1,(rdL pt dp v flex fs s).2) := by
  rw [rdL,if_neg (fun h' => by omega)]
theorem errV_some {ev : Value} {st : St} (h : st ≠ none) : errV ev st = .nilIface := by
  unfold errV
  cases st with
  | none => exact absurd rfl h
  | some x => rfl
def tagOnce (fs : List Fld) : Nat → List Nat → St → Prop
  | 0,_,_ => True
  | n + 1,ks,st => (tagX fs (rdUv st).1 ≠ none → (rdUv st).1 ∉ ks) ∧ tagOnce fs n ((rdUv st).1 :: ks) (rdSpan (rdUv (rdUv st).2).1 (rdUv (rdUv st).2).2).2
def onceM (d : Nat) (v : Int) (fs : List Fld) (st : St) : Prop := ∀ xs s',rdL (rdP d v true) (dfP d) v true fs st = (xs,s') → tagOnce fs (rdUv s').1 [] (rdUv s').2
theorem tag_read {k : Nat} {o r : List UInt8} (hk : k < 4294967296) (ho : o.length < 4294967296) :
    (rdUv (some (oneTag (k,o) ++ r))).1 = k ∧ rdSpan ((rdUv (rdUv (some (oneTag (k,o) ++ r))).2).1 : Nat) (rdUv (rdUv (some (oneTag (k,o) ++ r))).2).2 = (o,some r) := by
  have e : oneTag (k,o) ++ r = uvarS k ++ (uvarS o.length ++ (o ++ r)) := by simp [oneTag]
  have h1 : rdUv (some (oneTag (k,o) ++ r)) = (k,some (uvarS o.length ++ (o ++ r))) := by rw [e,rdUv_uvar _ _ hk]
  have h2 : rdUv (some (uvarS o.length ++ (o ++ r))) = (o.length,some (o ++ r)) := rdUv_uvar _ _ ho
  rw [h1]
  simp only [h2]
  exact ⟨trivial,rdSpan_app o r⟩
theorem once_unks {fs : List Fld} : ∀ (l : List TagD) (ks : List Nat) (r : List UInt8),(∀ x ∈ l,tagX fs x.1 = none) → (∀ x ∈ l,x.1 < 4294967296) → tagOnce fs l.length ks (some (l.flatMap unkT ++ r))
  | [],_,_,_,_ => trivial
  | x :: l,ks,r,h0,h1 => by
    have hw := wholeS_len x.2
    obtain ⟨e1,e2⟩ := tag_read (k := x.1) (o := wholeS x.2) (r := l.flatMap unkT ++ r) (h1 x (by simp)) (by omega)
    rw [List.length_cons,List.flatMap_cons,List.append_assoc]
    rw [show unkT x = oneTag (x.1,wholeS x.2) from rfl]
    refine ⟨fun h => absurd (by rw [e1];exact h0 x (by simp)) h,?_⟩
    rw [e2]
    exact once_unks l _ r (fun y hy => h0 y (by simp [hy])) (fun y hy => h1 y (by simp [hy]))
theorem once_tags {pw : List Fld → Int → Bool → Tree → List UInt8} {D : Nat} {v : Int} {flex : Bool} {fs : List Fld} {t : Tree} {n : Nat} {r : List UInt8} (hr : ∀ ks,tagOnce fs n ks (some r)) : ∀ (ts : List (Nat × Nat × Fld)) (ks : List Nat),
    (∀ p ∈ ts,p.1 < 4294967296 ∧ (fieldS pw p.2.2 v flex (t.at p.2.1)).length < 4294967296) → (∀ p ∈ ts,p.1 ∉ ks) → ts.Pairwise (fun a b => a.1 ≠ b.1) →
    tagOnce fs ((ts.flatMap (tgO pw D v flex t)).length + n) ks (some ((ts.flatMap (tgO pw D v flex t)).flatMap oneTag ++ r))
  | [],ks,_,_,_ => by simpa using hr ks
  | p :: ts,ks,h,hks,hp => by
    rw [List.pairwise_cons] at hp
    obtain ⟨h1,h2⟩ := h p (by simp)
    rw [List.flatMap_cons]
    by_cases hu : usualS D p.2.2 (t.at p.2.1) = false
    · have e : tgO pw D v flex t p = [(p.1,fieldS pw p.2.2 v flex (t.at p.2.1))] := by unfold tgO;rw [if_pos hu]
      obtain ⟨e1,e2⟩ := tag_read (r := (ts.flatMap (tgO pw D v flex t)).flatMap oneTag ++ r) h1 h2
      rw [e,List.length_append,List.flatMap_append,List.append_assoc]
      simp only [List.length_cons,List.length_nil,List.flatMap_cons,List.flatMap_nil,List.append_nil]
      rw [show 0 + 1 + (ts.flatMap (tgO pw D v flex t)).length + n = ((ts.flatMap (tgO pw D v flex t)).length + n) + 1 by omega]
      refine ⟨fun _ => by rw [e1];exact hks p (by simp),?_⟩
      rw [e1,e2]
      refine once_tags hr ts _ (fun q hq => h q (by simp [hq])) (fun q hq hm => ?_) hp.2
      rcases List.mem_cons.1 hm with hm | hm
      · exact hp.1 q hq hm.symm
      · exact hks q (by simp [hq]) hm
    · have e : tgO pw D v flex t p = [] := by unfold tgO;rw [if_neg hu]
      rw [e,List.nil_append]
      exact once_tags hr ts ks (fun q hq => h q (by simp [hq])) (fun q hq => hks q (by simp [hq])) hp.2
theorem onceM_part {d : Nat} {v : Int} {fs : List Fld} {N : Nat} {t : Tree} (h : okRT d v true fs = true) (hs : Sized N t) (ts : List (Nat × Nat × Fld))
    (hts : tagsS (partS (d + 1)) (d + 2) fs v true t = ts.flatMap (tgO (partS (d + 1)) (d + 2) v true t)) (htf : ∀ p ∈ ts,p.1 < 4294967296 ∧ (fieldS (partS (d + 1)) p.2.2 v true (t.at p.2.1)).length < 4294967296) (hp : ts.Pairwise (fun a b => a.1 ≠ b.1)) (hl : ts.length ≤ 1000) :
    onceM (d + 1) v fs (some (partS (d + 2) fs v true t)) := by
  have hu : ∀ x ∈ t.u,x.1 < 4294967296 := by
    cases hs with
    | mk ns hl he hk hN => exact hk
  have hpl := fun r => rdL_plain (pr := rdP (d + 1) v true) (pw := partS (d + 1)) (pc := cnP (d + 1) v true) (flex := true) (dfP (d + 1)) t fs 0 r fun f hf hh i r => rdF_partT h hs hf (.inl hh) i r
  intro xs s' hr
  rw [partS_eq] at hr
  unfold partT at hr
  rw [plainS_L,if_pos rfl,hts,hpl] at hr
  obtain ⟨-,rfl⟩ := Prod.mk.inj hr
  have hun := unknownS_spec fs t.u
  have hul := unknownS_len' fs t.u
  have htl : (ts.flatMap (tgO (partS (d + 1)) (d + 2) v true t)).length ≤ ts.length := by
    have : ∀ l : List (Nat × Nat × Fld),(l.flatMap (tgO (partS (d + 1)) (d + 2) v true t)).length ≤ l.length := by
      intro l
      induction l with
      | nil => simp
      | cons p l ih =>
        rw [List.flatMap_cons,List.length_append,List.length_cons]
        have : (tgO (partS (d + 1)) (d + 2) v true t p).length ≤ 1 := by unfold tgO;split <;> simp
        omega
    exact this ts
  rw [rdUv_uvar _ _ (by omega)]
  refine once_tags (fun ks => ?_) ts [] htf (fun _ _ h => by cases h) hp
  have := once_unks (fs := fs) (unknownS fs t.u) ks [] (fun x hx => tagX_none (tag_known (hun.2 x hx).2)) (fun x hx => hu x (hun.2 x hx).1)
  rw [List.append_nil] at this
  exact this
theorem partM_bound {d : Nat} {v : Int} {flex : Bool} {fs : List Fld} {N : Nat} {t : Tree} (hsub : ∀ f ∈ fs,okM d f.sub = true) (hs : Sized N t) (ts : List (Nat × Nat × Fld))
    (hts : tagsS (partS (d + 1)) (d + 2) fs v true t = ts.flatMap (tgO (partS (d + 1)) (d + 2) v true t)) (htf : ∀ p ∈ ts,p.1 < 4294967296 ∧ p.2.2 ∈ fs ∧ (fieldS (partS (d + 1)) p.2.2 v true (t.at p.2.1)).length < 4294967296) (hl : ts.length ≤ 1000) :
    (partS (d + 2) fs v flex t).length ≤ (cst (d + 2) fs + (ts.map fun p => 2 * cst (d + 1) p.2.2.sub + 60).sum) * (N + 1) := by
  have hu : (t.u.map fun x => x.2.length + 1).sum ≤ N ∧ ∀ x ∈ t.u,x.1 < 4294967296 := by
    cases hs with
    | mk ns hl he hk hN => exact ⟨by simp only [Tree.u];omega,hk⟩
  have h1 := tags_bound fs t.u hu.2
  have h2 := unknownS_len' fs t.u
  have hf : ∀ f ∈ fs,∀ flex i,(fieldS (partS (d + 1)) f v flex (t.at i)).length ≤ (2 * cst (d + 1) f.sub + 40) * (N + 1) := fun f hf flex i =>
    fieldS_bound (C := cst (d + 1) f.sub) (fun M x hx => partS_bound v flex d f.sub M x (hsub f hf) hx) f rfl (hs.at i)
  have hplain : ∀ (l : List Fld) (i : Nat),(∀ f ∈ l,f ∈ fs) → ((l.zipIdx i).flatMap (plainF (partS (d + 1)) v flex t)).length ≤ (l.map fun f => 2 * cst (d + 1) f.sub + 40).sum * (N + 1) := by
    intro l
    induction l with
    | nil => intro i _;simp
    | cons f l ihl =>
      intro i hm
      have g1 := ihl (i + 1) fun g hg => hm g (by simp [hg])
      have g2 : (plainF (partS (d + 1)) v flex t (f,i)).length ≤ (2 * cst (d + 1) f.sub + 40) * (N + 1) := by
        unfold plainF
        split
        · exact hf f (hm f (by simp)) flex i
        · simp
      simp only [List.zipIdx_cons,List.flatMap_cons,List.length_append,List.map_cons,List.sum_cons,Nat.add_mul] at g1 g2 ⊢
      omega
  have g := hplain fs 0 fun f hf => hf
  have htags : ∀ l : List (Nat × Nat × Fld),(∀ p ∈ l,p ∈ ts) → ((l.flatMap (tgO (partS (d + 1)) (d + 2) v true t)).flatMap oneTag).length ≤ (l.map fun p => 2 * cst (d + 1) p.2.2.sub + 60).sum * (N + 1) := by
    intro l
    induction l with
    | nil => intro _;simp
    | cons p l ihl =>
      intro hm
      have g1 := ihl fun q hq => hm q (by simp [hq])
      obtain ⟨h3,h4,h5⟩ := htf p (hm p (by simp))
      have h6 := hf p.2.2 h4 true p.2.1
      have g2 : ((tgO (partS (d + 1)) (d + 2) v true t p).flatMap oneTag).length ≤ (2 * cst (d + 1) p.2.2.sub + 60) * (N + 1) := by
        have h7 : (2 * cst (d + 1) p.2.2.sub + 60) * (N + 1) = (2 * cst (d + 1) p.2.2.sub + 40) * (N + 1) + 20 * (N + 1) := by rw [← Nat.add_mul]
        rw [h7]
        unfold tgO
        split
        · have a1 := uvarS_len 9 p.1 (by omega)
          have a2 := uvarS_len 9 (fieldS (partS (d + 1)) p.2.2 v true (t.at p.2.1)).length (by omega)
          simp only [List.flatMap_cons,List.flatMap_nil,List.append_nil,oneTag,List.length_append]
          omega
        · simp
      rw [List.flatMap_cons,List.flatMap_append,List.length_append,List.map_cons,List.sum_cons,Nat.add_mul]
      omega
  have gt := htags ts fun p hp => hp
  have htl : (ts.flatMap (tgO (partS (d + 1)) (d + 2) v true t)).length ≤ ts.length := by
    have : ∀ l : List (Nat × Nat × Fld),(l.flatMap (tgO (partS (d + 1)) (d + 2) v true t)).length ≤ l.length := by
      intro l
      induction l with
      | nil => simp
      | cons p l ih =>
        rw [List.flatMap_cons,List.length_append,List.length_cons]
        have : (tgO (partS (d + 1)) (d + 2) v true t p).length ≤ 1 := by unfold tgO;split <;> simp
        omega
    exact this ts
  have h3 := uvarS_len 9 ((ts.flatMap (tgO (partS (d + 1)) (d + 2) v true t)).length + (unknownS fs t.u).length) (by omega)
  have e4 : plainS (partS (d + 1)) fs v flex t = (fs.zipIdx 0).flatMap (plainF (partS (d + 1)) v flex t) := rfl
  have e5 : cst (d + 2) fs = (fs.map fun f => 2 * cst (d + 1) f.sub + 40).sum + 60 := rfl
  rw [partS_eq]
  unfold partT
  rw [e5,Nat.add_mul,Nat.add_mul,e4]
  cases flex with
  | true =>
    rw [if_pos rfl,hts]
    simp only [List.length_append]
    omega
  | false =>
    rw [if_neg (by decide)]
    omega
end Ms

namespace Ms
open Nat renaming reduceEqDiff → n0,reduceAdd → n1,reduceMul → n2,reduceSub → n3,reduceLT → n4,reduceLeDiff → n5
open Int renaming reduceEq → i0,reduceLT → i1,reduceLE → i2,reduceNeg → i3,reduceAdd → i4,reduceSub → i5,reduceMul → i6,reduceToNat → i7
set_option maxRecDepth 8000
open Go Go.Proofs Go.Shelf
attribute [local congr] W_congr WPsq_congr WPp_congr optK_congr addrK_congr intK_congr boolK_congr sliceK_congr tupleK_congr funcK_congr Fn_congr rawK_congr takeK_congr stepK_congr convK_congr aggK_congr

theorem TagsSetX_fn {okT : Blocks} {L vb o : Nat} {x : Blk} {m : Value} {u : List TagD} (w : World) (hG : TagsG okT L w m u) (hL : L ≤ w.heap.size) (hvL : vb < L) (hb : blk w vb = some x) (hm : x.1[o]? = some m) (hth : thaw x.2.2 o 1 = true)
    (y : TagD) (vv : Value) (hval : BytesV (fun b => okT b ∧ b < L) w vv y.2) (hy : y.1 < 2 ^ 32) (hnew : ∀ z ∈ u,z.1 ≠ y.1) (hoT : ∀ b,okT b → b ≠ vb) :
    Fn Tryd.prog 31 #[.pointer (some ⟨vb,o,none⟩),.int .u32 y.1,vv] w fun _ w' => ∃ m',blk w' vb = some (x.1.setIfInBounds o (.map m'),x.2) ∧ TagsG okT L w' (.map m') (u ++ [y]) ∧ Upd (fun b => b = vb ∨ m = .map (some b)) w w' ∧ (∀ b,m' = some b → m = .map (some b) ∨ w.heap.size ≤ b) := by
  have hlt : o < x.1.size := (Array.getElem?_eq_some_iff.1 hm).1
  rcases hG with ⟨rfl,rfl⟩ | ⟨r,es,clock,rfl,g2,g3,g4,g5,g6⟩
  · refine (TagsSet_none w hb hm hth y.1 vv).mono ?_
    rintro _ w' rfl
    have hbl := blk_lt hb
    have hU1 : Upd (fun b => b = vb ∨ Value.map none = .map (some b)) w (wr (w.alloc (.map #[] 0)) vb o [.map (some w.heap.size)]) := ((Upd.refl _ _).alloc _).wr _ _ (.inr (.inl rfl))
    have hU2 := hU1.setBlock w.heap.size (.map #[{ key := .int .u32 y.1,val := vv,born := 0 }] 1) (.inl (Nat.le_refl _))
    have hz : w.heap.size < (wr (w.alloc (.map #[] 0)) vb o [.map (some w.heap.size)]).heap.size := by rw [size_wr,World.size_alloc];omega
    refine ⟨some w.heap.size,?_,.inr ⟨w.heap.size,_,1,rfl,hL,setBlock_same _ _ _ hz,rfl,fun i h1 h2 => ?_,fun i j h1 h2 _ => ?_⟩,hU2,fun b hb => .inr (by cases hb;exact Nat.le_refl _)⟩
    · rw [blk_of_heap (setBlock_ne _ _ _ (by omega)),blk_wr_eq,blk_alloc_old hbl,hb];rfl
    · simp only [List.nil_append,List.length_cons,List.length_nil] at h1
      obtain rfl : i = 0 := by omega
      refine ⟨⟨rfl,hy,hval.keep (hU2.keeps fun b hb hk h => ?_)⟩,Nat.zero_lt_one⟩
      rcases h with h | h
      · exact hoT b hk.1 h
      · cases h
    · have h1' : i < 1 := h1
      have h2' : j < 1 := h2
      omega
  · have hKU := tm_keysU g4 g5
    refine (TagsSet_some w hb hm g3 y.1 vv hKU ?_).mono ?_
    · intro e he
      obtain ⟨i,hi,rfl⟩ := List.getElem_of_mem he
      simp only [Array.length_toList] at hi
      have := (g5 i (by omega) hi).1.key
      rw [Array.getElem_toList,this]
      intro h
      simp only [Value.int.injEq,true_and] at h
      exact hnew _ (List.getElem_mem (by omega : i < u.length)) (by omega)
    · rintro _ w' rfl
      have hU2 : Upd (fun b => b = vb ∨ Value.map (some r) = .map (some b)) w _ := (Upd.refl _ w).setBlock r (.map (es.push { key := .int .u32 y.1,val := vv,born := clock }) (clock + 1)) (.inr (.inr rfl))
      have hkp : Keeps (fun b => okT b ∧ b < L) w _ := hU2.keeps fun b hb hk h => by
        rcases h with h | h
        · exact hoT b hk.1 h
        · cases h;have := hk.2;omega
      have hp := tagE_push (e := { key := .int .u32 y.1,val := vv,born := clock }) (y := y) g4 (fun i h1 h2 => ⟨(g5 i h1 h2).1.keep hkp,(g5 i h1 h2).2⟩) ⟨rfl,hy,hval.keep hkp⟩ rfl
      refine ⟨some r,?_,.inr ⟨r,_,clock + 1,rfl,g2,setBlock_same _ _ _ (heap_lt g3),hp.1,hp.2,inj_push g6 (fun i h1 => (g5 i (by omega) h1).2) rfl⟩,hU2,fun b hb => .inl (by cases hb;rfl)⟩
      rw [blk_of_heap (setBlock_ne _ _ _ (by omega)),hb]
      have e : x.1.setIfInBounds o (.map (some r)) = x.1 := by
        apply Array.ext_getElem?
        intro k
        rw [Array.getElem?_setIfInBounds]
        split
        · rename_i h;subst h
          exact hm.symm
        · rfl
      rw [e]
theorem TagsPutX_fn {okT : Blocks} {L vb o : Nat} {x : Blk} {m : Value} {u : List TagD} (w : World) (hG : TagsG okT L w m u) (hL : L ≤ w.heap.size) (hvL : vb < L) (hb : blk w vb = some x) (hm : x.1[o]? = some m) (hth : thaw x.2.2 o 1 = true)
    (y : TagD) (vv : Value) (hval : BytesV (fun b => okT b ∧ b < L) w vv y.2) (hy : y.1 < 2 ^ 32) (hnd : (u.map (·.1)).Nodup) (hoT : ∀ b,okT b → b ≠ vb) :
    Fn Tryd.prog 31 #[.pointer (some ⟨vb,o,none⟩),.int .u32 y.1,vv] w fun _ w' => ∃ m',blk w' vb = some (x.1.setIfInBounds o (.map m'),x.2) ∧ TagsG okT L w' (.map m') (tagPut u y) ∧ Upd (fun b => b = vb ∨ m = .map (some b)) w w' ∧ (∀ b,m' = some b → m = .map (some b) ∨ w.heap.size ≤ b) := by
  by_cases hnew : ∀ z ∈ u,z.1 ≠ y.1
  · rw [tagPut_new hnew]
    exact TagsSetX_fn w hG hL hvL hb hm hth y vv hval hy hnew hoT
  · obtain ⟨z,hz,he⟩ : ∃ z,z ∈ u ∧ z.1 = y.1 := by
      apply Classical.byContradiction
      intro hc
      exact hnew fun z hz he => hc ⟨z,hz,he⟩
    obtain ⟨i,hi,rfl⟩ := List.getElem_of_mem hz
    rw [tagPut_old hi he hnd]
    rcases hG with ⟨rfl,rfl⟩ | ⟨r,es,clock,rfl,g2,g3,g4,g5,g6⟩
    · simp at hi
    · have hKU := tm_keysU g4 g5
      have hkey : ∀ j (hj : j < es.size),es[j].key = .int .u32 y.1 → j = i := by
        intro j hj hk
        have h1 := (g5 j (by omega) hj).1.key
        rw [h1] at hk
        simp only [Value.int.injEq,true_and] at hk
        have hk2 : u[j].1 = u[i].1 := by rw [he];omega
        have hn2 := List.pairwise_iff_getElem.1 (List.nodup_iff_pairwise_ne.1 hnd)
        rcases Nat.lt_trichotomy i j with h3 | h3 | h3
        · have := hn2 i j (by simpa using hi) (by simp;omega) h3
          simp only [List.getElem_map] at this
          exact absurd hk2.symm this
        · exact h3.symm
        · have := hn2 j i (by simp;omega) (by simpa using hi) h3
          simp only [List.getElem_map] at this
          exact absurd hk2 this
      refine (TagsSet_old (i := i) w hb hm g3 y.1 vv hKU (by omega) ?_ ?_).mono ?_
      · rw [(g5 i hi (by omega)).1.key,he]
      · intro j hj hji hk
        have := hkey j hj hk
        omega
      · rintro _ w' rfl
        have hU2 : Upd (fun b => b = vb ∨ Value.map (some r) = .map (some b)) w _ := (Upd.refl _ w).setBlock r (.map (es.modify i fun e => { e with key := .int .u32 y.1,val := vv }) clock) (.inr (.inr rfl))
        have hkp : Keeps (fun b => okT b ∧ b < L) w _ := hU2.keeps fun b hb hk h => by
          rcases h with h | h
          · exact hoT b hk.1 h
          · cases h;have := hk.2;omega
        have hp := tagE_set (i := i) g4 (fun i h1 h2 => ⟨(g5 i h1 h2).1.keep hkp,(g5 i h1 h2).2⟩) hi hy (hval.keep hkp)
        refine ⟨some r,?_,.inr ⟨r,_,clock,rfl,g2,setBlock_same _ _ _ (heap_lt g3),hp.1,hp.2,inj_set (fun _ => rfl) g6⟩,hU2,fun b hb => .inl (by cases hb;rfl)⟩
        rw [blk_of_heap (setBlock_ne _ _ _ (by
          intro e
          subst e
          have h8 := blk_lt hb
          unfold blk at hb
          rw [g3] at hb
          cases hb)),hb]
        have e : x.1.setIfInBounds o (.map (some r)) = x.1 := by
          apply Array.ext_getElem?
          intro k
          rw [Array.getElem?_setIfInBounds]
          split
          · rename_i h;subst h
            rw [if_pos (Array.getElem?_eq_some_iff.1 hm).1];exact hm.symm
          · rfl
        rw [e]
end Ms

namespace Ms
open Go

def verN (v : Int) : Int := if v < 0 then 0 else v
theorem verN_cases (v : Int) : v = verN v ∨ (v < 0 ∧ verN v = 0) := by unfold verN;split <;> omega
theorem rdI16_rng (st : St) : -32768 ≤ (rdInt .i16 2 st).1 ∧ (rdInt .i16 2 st).1 ≤ 32767 := by
  unfold rdInt IntKind.wrap;simp [IntKind.bits,IntKind.signed];split <;> omega
theorem verN_rng (st : St) : 0 ≤ verN (rdInt .i16 2 st).1 ∧ verN (rdInt .i16 2 st).1 ≤ 32767 := by
  have := rdI16_rng st
  unfold verN;split <;> omega
def Tree.setN (t : Tree) (n : Int) : Tree := .mk n t.s t.null t.l t.u
theorem Small.setN {M : Nat} {t : Tree} (h : Small M t) (n : Int) : Small M (t.setN n) := by
  cases h with
  | mk h1 h2 h3 h4 h5 => exact .mk h1 h2 h3 h4 h5
theorem rd_kept (v : Int) (P : List UInt8) (h : IntKind.i16.wrap v = v) : rdInt .i16 2 (some (fixedS v 2 ++ P)) = (v,some P) := by rw [rd_i16,h]
end Ms

namespace Ms
open Go

def ReadQF (T : TypeId) (ok : Blocks) (ver : Int) (d : Nat) (fs : List Fld) (vb : Nat) (w : World) (fin : Tree × St) (ev : Value) (r : Value) (w' : World) : Prop :=
  (fin.2 = none → r = ev) ∧ (fin.2 ≠ none → r = .nilIface ∧ ∃ cells,blk w' vb = some ((.int .i16 ver :: cells).toArray,T,(0,0)) ∧ RepS false d fs (okN ok w.heap.size) w' fin.1 cells) ∧ Upd (fun b => b = vb) w w'
theorem ReadQF.bad {T : TypeId} {ok : Blocks} {ver : Int} {d : Nat} {fs : List Fld} {vb : Nat} {w : World} {fin : Tree × St} {ev : Value} {w' : World} (h : fin.2 = none) (hu : Upd (fun b => b = vb) w w') : ReadQF T ok ver d fs vb w fin ev ev w' :=
  ⟨fun _ => rfl,fun h' => absurd h h',hu⟩
theorem RepS.introF {d : Nat} {fs : List Fld} {ok : Blocks} {w : World} {t : Tree} {c : List Value} (h1 : RepL (RepS false d) (szS false d) ok w t fs 0 c) : RepS false (d + 1) fs ok w t c :=
  ⟨c,[],by simp,h1,by rw [if_neg (by decide)]⟩
theorem RepS.invF {d : Nat} {fs : List Fld} {ok : Blocks} {w : World} {t : Tree} {cs : List Value} (h : RepS false (d + 1) fs ok w t cs) : RepL (RepS false d) (szS false d) ok w t fs 0 cs := by
  obtain ⟨c,m,h1,h2,h3⟩ := h
  rw [if_neg (by decide)] at h3
  subst h3
  rw [List.append_nil] at h1
  rw [h1];exact h2

def tlPF : Nat → List Fld → Tree → Tree
  | 0,_,_ => .zero
  | d + 1,fs,t => .mk 0 [] false (tlL (tlPF d) t fs 0) []
inductive NoU : Tree → Prop where
  | mk {n : Int} {s : List UInt8} {b : Bool} {l : List Tree} (h : ∀ x ∈ l,NoU x) : NoU (.mk n s b l [])
theorem NoU.zero : NoU .zero := .mk fun _ h => by cases h
theorem NoU.num (n : Int) : NoU (.num n) := .mk fun _ h => by cases h
theorem NoU.oct (b : Bool) (s : List UInt8) : NoU (.oct b s) := .mk fun _ h => by cases h
theorem NoU.el {t : Tree} (h : NoU t) : ∀ x ∈ t.l,NoU x := by cases h with | mk h => exact h
theorem NoU.u {t : Tree} (h : NoU t) : t.u = [] := by cases h with | mk h => rfl
theorem NoU.at {t : Tree} (h : NoU t) (i : Nat) : NoU (t.at i) := by
  unfold Tree.at
  rcases Nat.lt_or_ge i t.l.length with hi | hi
  · rw [List.getD_eq_getElem?_getD,List.getElem?_eq_getElem hi]
    exact h.el _ (List.getElem_mem hi)
  · rw [List.getD_eq_getElem?_getD,List.getElem?_eq_none hi]
    exact NoU.zero
theorem NoU.setNull {t : Tree} (h : NoU t) (b : Bool) : NoU (t.setNull b) := by
  cases h with | mk h => exact .mk h
section
variable {p q : List Fld → Tree → Tree} (hpq : ∀ sub x,NoU x → p sub x = q sub x)
include hpq
theorem tl1_congr (k : Int) (sub : List Fld) {x : Tree} (h : NoU x) : tl1 p k sub x = tl1 q k sub x := by
  unfold tl1;rw [hpq sub x h]
theorem tlF_congr (f : Fld) {x : Tree} (h : NoU x) : tlF p f x = tlF q f x := by
  unfold tlF
  rw [tl1_congr hpq f.kind f.sub h]
  split
  · rfl
  · split
    · congr 1
      refine List.map_congr_left fun y hy => tl1_congr hpq _ _ ?_
      split at hy
      · cases hy
      · exact h.el y hy
    · rfl
theorem tlL_congr {t : Tree} (h : NoU t) : ∀ (fs : List Fld) (i : Nat),tlL p t fs i = tlL q t fs i
  | [],_ => rfl
  | f :: fs,i => by rw [tlL,tlL,tlF_congr hpq f (h.at i),tlL_congr h fs (i + 1)]
end
theorem tlPF_eq : ∀ (d : Nat) (fs : List Fld) (t : Tree),NoU t → tlPF d fs t = tlP d fs t
  | 0,_,_,_ => rfl
  | d + 1,fs,t,h => by
    rw [tlPF,tlP,tlL_congr (fun sub x hx => tlPF_eq d sub x hx) h fs 0,h.u,show sortT [] = [] from sortT_rising List.Pairwise.nil]
theorem dfF_noU {dp : List Fld → Tree} (h : ∀ sub,NoU (dp sub)) (f : Fld) : NoU (dfF dp f) := by
  unfold dfF
  split
  · exact NoU.oct _ _
  · split
    · exact NoU.oct _ _
    · split
      · exact NoU.oct _ _
      · split
        · exact .mk fun _ h => by cases h
        · split
          · exact (h _).setNull _
          · exact NoU.num _
theorem dfP_noU : ∀ (d : Nat) (fs : List Fld),NoU (dfP d fs)
  | 0,_ => NoU.zero
  | d + 1,fs => .mk fun x hx => by
    obtain ⟨f,_,rfl⟩ := List.mem_map.1 hx
    exact dfF_noU (dfP_noU d) f
theorem cn1_noU {pc : List Fld → Tree → Tree} (h : ∀ sub x,NoU (pc sub x)) (k : Int) (sub : List Fld) (b : Bool) (t : Tree) : NoU (cn1 pc k sub b t) := by
  unfold cn1
  split
  · exact NoU.num _
  · split
    · exact NoU.oct _ _
    · split
      · exact NoU.oct _ _
      · split
        · exact h _ _
        · exact NoU.num _
theorem cnF_noU {pc : List Fld → Tree → Tree} (h : ∀ sub x,NoU (pc sub x)) (v : Int) (f : Fld) (t : Tree) : NoU (cnF pc v f t) := by
  unfold cnF
  split
  · refine .mk fun x hx => ?_
    split at hx
    · cases hx
    · obtain ⟨y,_,rfl⟩ := List.mem_map.1 hx
      exact cn1_noU h _ _ _ _
  · split
    · split
      · exact .mk fun _ h => by cases h
      · exact h _ _
    · exact cn1_noU h _ _ _ _
theorem cnL_noU {pc : List Fld → Tree → Tree} {dp : List Fld → Tree} (h : ∀ sub x,NoU (pc sub x)) (hd : ∀ sub,NoU (dp sub)) (v : Int) (t : Tree) : ∀ (fs : List Fld) (i : Nat),∀ x ∈ cnL pc dp v t fs i,NoU x
  | [],_,x,hx => by cases hx
  | f :: fs,i,x,hx => by
    rw [cnL] at hx
    rcases List.mem_cons.1 hx with rfl | hx
    · split
      · exact cnF_noU h _ _ _
      · exact dfF_noU hd _
    · exact cnL_noU h hd v t fs (i + 1) x hx
theorem cnP_noU (v : Int) : ∀ (d : Nat) (fs : List Fld) (t : Tree),NoU (cnP d v false fs t)
  | 0,_,_ => NoU.zero
  | d + 1,fs,t => by
    rw [cnP,if_neg (by decide)]
    exact .mk fun x hx => cnL_noU (cnP_noU v d) (dfP_noU d) v t fs 0 x hx
theorem tlPF_cn (v : Int) (d : Nat) (fs : List Fld) (t : Tree) : tlPF d fs (cnP d v false fs t) = tlP d fs (cnP d v false fs t) := tlPF_eq _ _ _ (cnP_noU v d fs t)
end Ms

namespace Ms
open Go
theorem nullS_early {f : Fld} {v : Int} {t : Tree} (h : v < f.null) : nullS f v t = false := by
  unfold nullS
  have : decide (v ≥ f.null) = false := by simp;omega
  rw [this];simp
section
variable {P : List Fld → Tree → Prop} {V : Int} {f : Fld} {t : Tree}
theorem FitWF.listL (h : FitWF P V f t) (hk : f.kind = 11) {L : List Tree} (hL : L = if nullS f V t = true then [] else t.l) : L.length ≤ 32767 ∧ ∀ x ∈ L,Fit1 P f.of f.sub x := by
  subst hL
  split
  · exact ⟨by simp,fun x hx => by cases hx⟩
  · exact h.list hk
theorem RepF_listN {R : List Fld → Rel Tree} {S : List Fld → Nat} {ok : Blocks} {w : World} {c : List Value} (hg : FitWF P V f t) (h : f.kind = 11) (hn : 0 ≤ f.null) (hr : RepF R S f ok w t c) :
    ∃ v L,c = [v] ∧ L = (if nullS f V t = true then [] else t.l) ∧ SlR ok w (sz1 S f.of f.sub) (Rep1 R f.of f.sub ok w) v L ∧ ∀ a n k,v = .slice a n k → a.isNone = nullS f V t := by
  unfold RepF at hr
  rw [if_neg (by omega),if_pos h] at hr
  obtain ⟨v,rfl,hr⟩ := hr
  rw [hg.isnull hn] at hr
  refine ⟨v,_,rfl,rfl,?_⟩
  by_cases ht : nullS f V t = true
  · rw [if_pos ht] at hr ⊢
    subst hr
    refine ⟨⟨[],⟨none,0,rfl,Nat.le_refl _,by simp,.inl rfl⟩,rfl,fun i h => by simp at h⟩,fun a n k e => ?_⟩
    cases e;rw [ht];rfl
  · rw [if_neg ht] at hr ⊢
    refine ⟨hr.1,fun a n k e => ?_⟩
    obtain ⟨a',n',k',e'⟩ := hr.2
    rw [e'] at e;cases e
    cases hb : nullS f V t with
    | true => exact absurd hb ht
    | false => rfl
theorem RepF_bytesN {R : List Fld → Rel Tree} {S : List Fld → Nat} {ok : Blocks} {w : World} {c : List Value} (hg : FitWF P V f t) (h : f.kind = 9) (hn : 0 ≤ f.null) (hr : RepF R S f ok w t c) : ∃ v,c = [v] ∧ OptBytes ok w v (nullS f V t) t.s := by
  obtain ⟨v,rfl,ho⟩ := (RepF_bytes h).1 hr
  rw [hg.isnull hn] at ho
  exact ⟨v,rfl,ho⟩
variable {pt : List Fld → Int → Bool → Tree → List UInt8} {flex : Bool}
theorem fieldS_listN (hg : FitWF P V f t) (hk : f.kind = 11) {L : List Tree} (hL : L = if nullS f V t = true then [] else t.l) {g : Tree → List UInt8} (hx : ∀ x ∈ L,valueS pt f.of f.sub false V flex x = g x) : fieldS pt f V flex t = countedS flex (nullS f V t) L.length 4 ++ L.flatMap g := by
  unfold fieldS
  rw [if_pos hk,thingsS_id (hg.list hk).1,← hL,flatMap_ext hx]
theorem fieldS_nbytes_t (hg : FitWF P V f t) (hk : f.kind = 9) : fieldS pt f V true t = if nullS f V t = true then [0] else uvarS (t.s.length + 1) ++ t.s := by
  rw [fieldS_one (by omega),hk,valueS_bytes (hg.text (.inr hk))]
  simp
theorem fieldS_nbytes_f (hg : FitWF P V f t) (hk : f.kind = 9) : fieldS pt f V false t = if nullS f V t = true then fixedS (-1) 4 else fixedS t.s.length 4 ++ t.s := by
  rw [fieldS_one (by omega),hk,valueS_bytes (hg.text (.inr hk))]
  simp
end
theorem optBytes_shapeN {ok : Blocks} {w : World} {v : Value} {null : Bool} {s : List UInt8} (h : OptBytes ok w v null s) : (null = true ∧ v = .slice none 0 0) ∨ (null = false ∧ ∃ a c,v = .slice (some a) s.length c ∧ BytesV ok w v s) := by
  unfold OptBytes at h
  cases null with
  | true => rw [if_pos rfl] at h;exact .inl ⟨rfl,h⟩
  | false =>
    rw [if_neg (by decide)] at h
    obtain ⟨hb,a,n,c,rfl⟩ := h
    obtain ⟨a',c',e,_⟩ := id hb
    rw [List.length_map] at e
    cases e
    exact .inr ⟨rfl,_,_,rfl,hb⟩
end Ms

namespace Ms
open Go.World renaming size_alloc → qI
open Ms renaming size_wr → qJ,size_drew → qK,not_noB → qL
open W renaming seqR → qA,seq → qB,regR → qC,condK → qD,block → qE,skip → qF,ret → qG,exit → qH
open Nat renaming reduceEqDiff → n0,reduceAdd → n1,reduceMul → n2,reduceSub → n3,reduceLT → n4,reduceLeDiff → n5
open Int renaming reduceEq → i0,reduceLT → i1,reduceLE → i2,reduceNeg → i3,reduceAdd → i4,reduceSub → i5,reduceMul → i6,reduceToNat → i7
set_option maxRecDepth 4000
open Go Go.Proofs Go.Shelf
attribute [local congr] W_congr WPsq_congr WPp_congr optK_congr addrK_congr intK_congr boolK_congr sliceK_congr tupleK_congr funcK_congr Fn_congr rawK_congr takeK_congr stepK_congr convK_congr aggK_congr

theorem sorted_fn {ok : Blocks} (v : Value) (u : List TagD) (w : World) (h : TagsV ok w v u) (hs : (u.map (·.1)).Pairwise (· < ·)) (hl : u.length ≤ 32767) : Fn Tryd.prog 21 #[v] w fun _ w' => Ext w w' := by
  obtain ⟨a,c,rfl,_⟩ := SlR.shape h
  refine fn_of_W Tryd.func21 rfl Tryd.results21 Tryd.ntmps21 rfl ?_
  repeat ((first | refine qA rfl ?_|refine qB ?_|refine qC rfl ?_|refine qD ?_|refine qE ?_|refine qF ?_|refine qG ?_|refine qH ?_);try simp (maxSteps:=1000000)(disch:=(first|omega|(simp only [qI,qJ,qK]<;>omega)|exact qL _)) only [go_sem,↓reduceIte,n0,reduceCtorEq,n1,n2,n3,n4,n5,i0,i1,i2,i3,i4,i5,i6,i7])
  refine W.exitJ 0 (EndQ [] (fun w' => Ext w w'))
    (W.loop (LoopL [(5,.int .i64 u.length),(0,.slice a u.length c)] 6 (fun j w' => j ≤ u.length ∧ Ext w w')) (fun ρ _ => u.length - (RowKit.intOf (ρ 6)).toNat) ?_ ?_) ?_
  · exact ⟨(by simp (maxSteps:=1000000)(disch:=(first|omega|(simp only [qI,qJ,qK]<;>omega)|exact qL _)) only [go_sem,↓reduceIte,n0,reduceCtorEq,n1,n2,n3,n4,n5,i0,i1,i2,i3,i4,i5,i6,i7,Holds_nil,Holds_cons]),0,(by simp (maxSteps:=1000000)(disch:=(first|omega|(simp only [qI,qJ,qK]<;>omega)|exact qL _)) only [go_sem,↓reduceIte,n0,reduceCtorEq,n1,n2,n3,n4,n5,i0,i1,i2,i3,i4,i5,i6,i7];all_goals rfl),Nat.zero_le _,Upd.refl _ _⟩
  · rintro ρ w1 ⟨⟨h5,h0,-⟩,j,h6,hj,hE⟩
    by_cases hlt : j < u.length
    · repeat ((first | refine qA rfl ?_|refine qB ?_|refine qC rfl ?_|refine qD ?_|refine qE ?_|refine qF ?_|refine qG ?_|refine qH ?_);try simp (maxSteps:=1000000)(disch:=(first|omega|(simp only [qI,qJ,qK]<;>omega)|exact qL _)) only [go_sem,↓reduceIte,n0,reduceCtorEq,n1,n2,n3,n4,n5,i0,i1,i2,i3,i4,i5,i6,i7,h6,h5,h0])
      refine W.exitJ 2 (EndQ [(6,.int .i64 j),(5,.int .i64 u.length),(0,.slice a u.length c)] (fun w' => Ext w w')) (W.loop (EndQ [(3,.int .i64 j),(6,.int .i64 j),(5,.int .i64 u.length),(0,.slice a u.length c)] (fun w' => Ext w w')) (fun _ _ => 0) ?_ ?_) ?_
      · exact ⟨(by simp (maxSteps:=1000000)(disch:=(first|omega|(simp only [qI,qJ,qK]<;>omega)|exact qL _)) only [go_sem,↓reduceIte,n0,reduceCtorEq,n1,n2,n3,n4,n5,i0,i1,i2,i3,i4,i5,i6,i7,Holds_nil,Holds_cons,h6,h5,h0]),hE⟩
      · rintro ρ w2 ⟨⟨h3,h6,h5,h0,-⟩,hE2⟩
        by_cases hz : j = 0
        · subst hz
          have hc : ¬ (0 : Int) < ((0 : Nat) : Int) := by omega
          repeat ((first | refine qA rfl ?_|refine qB ?_|refine qC rfl ?_|refine qD ?_|refine qE ?_|refine qF ?_|refine qG ?_|refine qH ?_);try simp (maxSteps:=1000000)(disch:=(first|omega|(simp only [qI,qJ,qK]<;>omega)|exact qL _)) only [go_sem,↓reduceIte,n0,reduceCtorEq,n1,n2,n3,n4,n5,i0,i1,i2,i3,i4,i5,i6,i7])
          refine W.drawR (.take 0 (.take 1 (.take 2 (.take 3 (.take 4 (.take 5 (.take 6 (.take 7 (.take 8 (.take 9 (.take 10 (.take 11 (.take 12 (.take 13 (.take 14 (.take 15 .done)))))))))))))))) NoB mixed (by kernel_rfl) ?_
          simp (maxSteps:=1000000)(disch:=(first|omega|(simp only [qI,qJ,qK]<;>omega)|exact qL _)) only [go_sem,↓reduceIte,n0,reduceCtorEq,n1,n2,n3,n4,n5,i0,i1,i2,i3,i4,i5,i6,i7,h3,h0,hc]
          repeat ((first | refine qA rfl ?_|refine qB ?_|refine qC rfl ?_|refine qD ?_|refine qE ?_|refine qF ?_|refine qG ?_|refine qH ?_);try simp (maxSteps:=1000000)(disch:=(first|omega|(simp only [qI,qJ,qK]<;>omega)|exact qL _)) only [go_sem,↓reduceIte,n0,reduceCtorEq,n1,n2,n3,n4,n5,i0,i1,i2,i3,i4,i5,i6,i7,h3,h0,hc])
          exact ⟨(by simp (maxSteps:=1000000)(disch:=(first|omega|(simp only [qI,qJ,qK]<;>omega)|exact qL _)) only [go_sem,↓reduceIte,n0,reduceCtorEq,n1,n2,n3,n4,n5,i0,i1,i2,i3,i4,i5,i6,i7,Holds_nil,Holds_cons,h6,h5,h0]),hE2.drew⟩
        · have hU := h.keep (hE2.keeps _)
          obtain ⟨_,b,o,x,vv,hb,_,hx,_,hxs,_,q0,q1,_,_,h32⟩ := TagsV.get hU hlt
          obtain ⟨_,b',o',x',vv',hb',_,hx',_,hxs',_,q0',q1',_,_,h32'⟩ := TagsV.get hU (i := j - 1) (by omega)
          subst hb
          cases hb'
          rw [hx] at hx';cases hx'
          have hle : u[j - 1].1 < u[j].1 := by
            have := List.pairwise_iff_getElem.1 hs (j - 1) j (by simp;omega) (by simpa using hlt) (by omega)
            simpa using this
          generalize u[j].1 = ka at *
          generalize u[j - 1].1 = kb at *
          have hc : (0 : Int) < (j : Int) := by omega
          have he : (j : Int) - 1 = ((j - 1 : Nat) : Int) := by omega
          have hd : ¬ (ka : Int) < (kb : Int) := by omega
          repeat ((first | refine qA rfl ?_|refine qB ?_|refine qC rfl ?_|refine qD ?_|refine qE ?_|refine qF ?_|refine qG ?_|refine qH ?_);try simp (maxSteps:=1000000)(disch:=(first|omega|(simp only [qI,qJ,qK]<;>omega)|exact qL _)) only [go_sem,↓reduceIte,n0,reduceCtorEq,n1,n2,n3,n4,n5,i0,i1,i2,i3,i4,i5,i6,i7])
          refine W.drawR (.take 0 (.take 1 (.take 2 (.take 3 (.take 4 (.take 5 (.take 6 (.take 7 (.take 8 (.take 9 (.take 10 (.take 11 (.take 12 (.take 13 (.take 14 (.take 15 .done)))))))))))))))) NoB mixed (by kernel_rfl) ?_
          simp (maxSteps:=1000000)(disch:=(first|omega|(simp only [qI,qJ,qK]<;>omega)|exact qL _)) only [go_sem,↓reduceIte,n0,reduceCtorEq,n1,n2,n3,n4,n5,i0,i1,i2,i3,i4,i5,i6,i7,h3,h0,hc,he,hx,q0,q0',hd,Int.toNat_natCast]
          repeat ((first | refine qA rfl ?_|refine qB ?_|refine qC rfl ?_|refine qD ?_|refine qE ?_|refine qF ?_|refine qG ?_|refine qH ?_);try simp (maxSteps:=1000000)(disch:=(first|omega|(simp only [qI,qJ,qK]<;>omega)|exact qL _)) only [go_sem,↓reduceIte,n0,reduceCtorEq,n1,n2,n3,n4,n5,i0,i1,i2,i3,i4,i5,i6,i7,h3,h0,hc,he,hx,q0,q0',hd,Int.toNat_natCast])
          exact ⟨(by simp (maxSteps:=1000000)(disch:=(first|omega|(simp only [qI,qJ,qK]<;>omega)|exact qL _)) only [go_sem,↓reduceIte,n0,reduceCtorEq,n1,n2,n3,n4,n5,i0,i1,i2,i3,i4,i5,i6,i7,Holds_nil,Holds_cons,h6,h5,h0]),hE2.drew⟩
      · rintro ρ w2 ⟨⟨h6,h5,h0,-⟩,hE2⟩
        repeat ((first | refine qA rfl ?_|refine qB ?_|refine qC rfl ?_|refine qD ?_|refine qE ?_|refine qF ?_|refine qG ?_|refine qH ?_);try simp (maxSteps:=1000000)(disch:=(first|omega|(simp only [qI,qJ,qK]<;>omega)|exact qL _)) only [go_sem,↓reduceIte,n0,reduceCtorEq,n1,n2,n3,n4,n5,i0,i1,i2,i3,i4,i5,i6,i7,h6,h5,h0])
        refine ⟨⟨(by simp (maxSteps:=1000000)(disch:=(first|omega|(simp only [qI,qJ,qK]<;>omega)|exact qL _)) only [go_sem,↓reduceIte,n0,reduceCtorEq,n1,n2,n3,n4,n5,i0,i1,i2,i3,i4,i5,i6,i7,Holds_nil,Holds_cons,h6,h5,h0]),j + 1,(by simp (maxSteps:=1000000)(disch:=(first|omega|(simp only [qI,qJ,qK]<;>omega)|exact qL _)) only [go_sem,↓reduceIte,n0,reduceCtorEq,n1,n2,n3,n4,n5,i0,i1,i2,i3,i4,i5,i6,i7,h6];all_goals rfl),by omega,hE2⟩,?_⟩
        try simp (maxSteps:=1000000)(disch:=(first|omega|(simp only [qI,qJ,qK]<;>omega)|exact qL _)) only [go_sem,↓reduceIte,n0,reduceCtorEq,n1,n2,n3,n4,n5,i0,i1,i2,i3,i4,i5,i6,i7,h6]
        simp only [RowKit.intOf]
        omega
    · repeat ((first | refine qA rfl ?_|refine qB ?_|refine qC rfl ?_|refine qD ?_|refine qE ?_|refine qF ?_|refine qG ?_|refine qH ?_);try simp (maxSteps:=1000000)(disch:=(first|omega|(simp only [qI,qJ,qK]<;>omega)|exact qL _)) only [go_sem,↓reduceIte,n0,reduceCtorEq,n1,n2,n3,n4,n5,i0,i1,i2,i3,i4,i5,i6,i7,h6,h5])
      exact ⟨trivial,hE⟩
  · rintro ρ w1 ⟨-,hE⟩
    repeat ((first | refine qA rfl ?_|refine qB ?_|refine qC rfl ?_|refine qD ?_|refine qE ?_|refine qF ?_|refine qG ?_|refine qH ?_);try simp (maxSteps:=1000000)(disch:=(first|omega|(simp only [qI,qJ,qK]<;>omega)|exact qL _)) only [go_sem,↓reduceIte,n0,reduceCtorEq,n1,n2,n3,n4,n5,i0,i1,i2,i3,i4,i5,i6,i7])
    exact hE

end Ms

