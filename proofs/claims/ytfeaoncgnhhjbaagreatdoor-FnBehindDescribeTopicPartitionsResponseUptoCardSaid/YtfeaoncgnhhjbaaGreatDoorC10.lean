/- A part of the proof: see the last text. -/
import Derived.Test.YtfeaoncgnhhjbaaGreatDoorC03
import Derived.Test.YtfeaoncgnhhjbaaGreatDoorC06
import Derived.Test.YtfeaoncgnhhjbaaGreatDoorC07
import Derived.Test.YtfeaoncgnhhjbaaGreatDoorC09
set_option linter.unusedSimpArgs false
set_option linter.unusedVariables false
namespace Ms
open Go

def cn1 (pt : List Fld → Tree → Tree) (kind : Int) (sub : List Fld) (null : Bool) (t : Tree) : Tree :=
  if kind = 0 then .num (t.n % 2)
  else if kind = 7 then .oct false (uuidS t.s)
  else if kind = 8 ∨ kind = 9 then .oct null (if null = true then [] else wholeS t.s)
  else if kind = 10 then pt sub t
  else .num ((kindK kind).wrap t.n)
def cnF (pt : List Fld → Tree → Tree) (v : Int) (f : Fld) (t : Tree) : Tree :=
  if f.kind = 11 then .mk 0 [] (nilS f v (if nullS f v t = true then -1 else (thingsS t.l).length)) (if nullS f v t = true then [] else (thingsS t.l).map (cn1 pt f.of f.sub false)) []
  else if f.kind = 10 ∧ 0 ≤ f.null then (if nullS f v t = true then .mk 0 [] true [] [] else pt f.sub t)
  else cn1 pt f.kind f.sub (nullS f v t) t
def cnL (pt : List Fld → Tree → Tree) (dp : List Fld → Tree) (v : Int) (t : Tree) : List Fld → Nat → List Tree
  | [],_ => []
  | f :: fs,i => (if f.tag < 0 ∧ hasS f v = true then cnF pt v f (t.at i) else dfF dp f) :: cnL pt dp v t fs (i + 1)
def cnP : Nat → Int → Bool → List Fld → Tree → Tree
  | 0,_,_,_,_ => .zero
  | d + 1,v,flex,fs,t => .mk 0 [] false (cnL (cnP d v flex) (dfP d) v t fs 0) (if flex = true then (unknownS fs t.u).map fun u => (u.1,wholeS u.2) else [])

def numK (k : Int) : Prop := k = 1 ∨ k = 2 ∨ k = 3 ∨ k = 4 ∨ k = 5 ∨ k = 6
instance (k : Int) : Decidable (numK k) := by unfold numK;infer_instance
theorem rdLen_counted (flex null : Bool) (m : Nat) (r : List UInt8) (hm : m ≤ 32767) :
    rdLen flex .i16 2 (some (countedS flex null m 2 ++ r)) = (if null = true then -1 else (m : Int),some r) ∧ rdLen flex .i32 4 (some (countedS flex null m 4 ++ r)) = (if null = true then -1 else (m : Int),some r) := by
  cases flex with
  | true =>
    rw [rdLen_t,rdLen_t]
    cases null with
    | true =>
      have : ∀ n,countedS true true m n = uvarS 0 := fun n => by rw [counted_none,if_pos rfl,uvarS_small (by omega)];rfl
      rw [this,this,rdUv_uvar 0 r (by omega)];exact ⟨rfl,rfl⟩
    | false =>
      have : ∀ n,countedS true false m n = uvarS (m + 1) := fun n => by rw [counted_some,if_pos rfl]
      rw [this,this,rdUv_uvar (m + 1) r (by omega)]
      simp
  | false =>
    rw [rdLen_f,rdLen_f]
    cases null with
    | true =>
      have : ∀ n,countedS false true m n = fixedS (-1) n := fun n => by rw [counted_none];simp
      rw [this,this,rd_i16,rd_i32];exact ⟨rfl,rfl⟩
    | false =>
      have : ∀ n,countedS false false m n = fixedS m n := fun n => by rw [counted_some];simp
      rw [this,this,rd_i16,rd_i32]
      rw [i16_wrap (by omega),i32_wrap (by omega)]
      simp
theorem rdCnt_counted (flex null : Bool) (m : Nat) (r : List UInt8) (hm : m ≤ 32767) : rdCnt flex (some (countedS flex null m 4 ++ r)) = (if null = true then -1 else (m : Int),some r) := by
  have h := (rdLen_counted flex null m r hm).2
  cases flex with
  | true =>
    rw [rdLen_t] at h
    rw [rdCnt_t]
    simp only [Prod.mk.injEq] at h ⊢
    refine ⟨?_,h.2⟩
    have h1 := h.1
    cases null with
    | true =>
      simp only [if_true] at h1 ⊢
      rw [show (((rdUv (some (countedS true true m 4 ++ r))).1 : Nat) : Int) = 0 by omega];rfl
    | false =>
      simp only [Bool.false_eq_true,if_false] at h1 ⊢
      rw [show (((rdUv (some (countedS true false m 4 ++ r))).1 : Nat) : Int) = (m : Int) + 1 by omega,i32_wrap (x := (m : Int) + 1) (by omega),i32_wrap (x := (m : Int) + 1 - 1) (by omega)]
      omega
  | false => rw [rdLen_f] at h;rw [rdCnt_f];exact h

section
variable {pr : List Fld → St → Tree × St} {pw : List Fld → Int → Bool → Tree → List UInt8} {pc : List Fld → Tree → Tree} {v : Int} {flex : Bool}
theorem rd1_value (kind : Int) (sub : List Fld) (null may : Bool) (t : Tree) (r : List UInt8) (hk : kind = 0 ∨ numK kind ∨ (7 ≤ kind ∧ kind ≤ 10)) (hm : null = true → may = true) (hp : kind = 10 → pr sub (some (pw sub v flex t ++ r)) = (pc sub t,some r)) :
    rd1 pr kind sub may flex (some (valueS pw kind sub null v flex t ++ r)) = (cn1 pc kind sub null t,some r) := by
  have hwl := wholeS_len t.s
  have hl := fun m h => rdLen_counted flex null m (((if null = true then [] else wholeS t.s)) ++ r) h
  have hs : ∀ (s : List UInt8),s = (if null = true then [] else wholeS t.s) → s.length ≤ 32767 := fun s e => by
    rw [e];split
    · simp
    · exact hwl
  by_cases h0 : kind = 0
  · subst h0
    have e1 : valueS pw 0 sub null v flex t = [b8 (t.n % 2)] := by simp [valueS]
    have e2 : cn1 pc 0 sub null t = .num (t.n % 2) := by simp [cn1]
    have e3 : ∀ st,rd1 pr 0 sub may flex st = (.num (if beN (rdN 1 st).1 = 0 then 0 else 1),(rdN 1 st).2) := fun st => by simp [rd1]
    rw [e1,e2,e3,rdN_app 1 _ r rfl]
    simp only [beN_1]
    have hb := b8_toNat (t.n % 2)
    congr 2
    split <;> omega
  by_cases h7 : kind = 7
  · subst h7
    have e1 : valueS pw 7 sub null v flex t = uuidS t.s := by simp [valueS,uuidS]
    have e2 : cn1 pc 7 sub null t = .oct false (uuidS t.s) := by simp [cn1]
    have e3 : ∀ st,rd1 pr 7 sub may flex st = (.oct false (uuidS (rdSpan 16 st).1),(rdSpan 16 st).2) := fun st => by simp [rd1]
    rw [e1,e2,e3,rdSpan_16]
    have e : uuidS (uuidS t.s) = uuidS t.s := by
      have hu := uuidS_len t.s
      generalize uuidS t.s = x at *
      unfold uuidS
      rw [List.take_of_length_le (by omega),hu]
      simp
    simp only [e]
  by_cases h8 : kind = 8
  · subst h8
    obtain ⟨s,es⟩ : ∃ s,s = (if null = true then [] else wholeS t.s) := ⟨_,rfl⟩
    have e1 : valueS pw 8 sub null v flex t = countedS flex null s.length 2 ++ s := by rw [es];simp [valueS]
    have e2 : cn1 pc 8 sub null t = .oct null s := by rw [es];simp [cn1]
    have e3 : ∀ st,rd1 pr 8 sub may flex st = if may = true then (.oct (rdNStr flex st).1.1 (rdNStr flex st).1.2,(rdNStr flex st).2) else (.oct false (rdStr flex st).1,(rdStr flex st).2) := fun st => by simp [rd1]
    rw [e1,e2,e3]
    rw [← es] at hl
    have hL := (hl s.length (hs s es)).1
    rw [← List.append_assoc] at hL
    have hst : null = false → rdStr flex (some (countedS flex null s.length 2 ++ s ++ r)) = (s,some r) := fun hn => by
      unfold rdStr;rw [hL,hn];exact rdSpan_app s r
    cases null with
    | true =>
      have := hm rfl;subst this
      simp only [if_true] at hL es ⊢
      unfold rdNStr
      rw [hL]
      simp only
      rw [if_pos (by decide)]
      subst es;rfl
    | false =>
      have hst := hst rfl
      cases may with
      | false => simp only [Bool.false_eq_true,if_false,hst]
      | true =>
        simp only [if_true]
        unfold rdNStr
        rw [hL,hst]
        simp only [Bool.false_eq_true,if_false]
        rw [if_neg (by omega)]
  by_cases h9 : kind = 9
  · subst h9
    obtain ⟨s,es⟩ : ∃ s,s = (if null = true then [] else wholeS t.s) := ⟨_,rfl⟩
    have e1 : valueS pw 9 sub null v flex t = countedS flex null s.length 4 ++ s := by rw [es];simp [valueS]
    have e2 : cn1 pc 9 sub null t = .oct null s := by rw [es];simp [cn1]
    have e3 : ∀ st,rd1 pr 9 sub may flex st = if may = true then (.oct (rdNBytes flex st).1.1 (rdNBytes flex st).1.2,(rdNBytes flex st).2) else (.oct (rdBytes flex st).1.1 (rdBytes flex st).1.2,(rdBytes flex st).2) := fun st => by simp [rd1]
    rw [e1,e2,e3]
    rw [← es] at hl
    have hL := (hl s.length (hs s es)).2
    rw [← List.append_assoc] at hL
    have hst : null = false → rdOct flex (some (countedS flex null s.length 4 ++ s ++ r)) = (s,some r) := fun hn => by
      unfold rdOct;rw [hL,hn];exact rdSpan_app s r
    cases null with
    | true =>
      have := hm rfl;subst this
      simp only [if_true] at hL es ⊢
      unfold rdNBytes
      rw [hL]
      simp only
      rw [if_pos (by decide)]
      subst es;rfl
    | false =>
      have hst := hst rfl
      cases may with
      | false =>
        simp only [Bool.false_eq_true,if_false]
        unfold rdBytes
        rw [hL,hst]
        simp only [Bool.false_eq_true,if_false]
        rw [if_neg (by omega)]
        rfl
      | true =>
        simp only [if_true]
        unfold rdNBytes
        rw [hL,hst]
        simp only [Bool.false_eq_true,if_false]
        rw [if_neg (by omega)]
        rfl
  by_cases h10 : kind = 10
  · subst h10
    have e1 : valueS pw 10 sub null v flex t = pw sub v flex t := by simp [valueS]
    have e2 : cn1 pc 10 sub null t = pc sub t := by simp [cn1]
    have e3 : ∀ st,rd1 pr 10 sub may flex st = pr sub st := fun st => by simp [rd1]
    rw [e1,e2,e3];exact hp rfl
  have hn : numK kind := by rcases hk with h | h | h <;> first | exact h | omega
  rcases hn with h | h | h | h | h | h <;> subst h
  · have := rd_i8 t.n r;simp [rd1,valueS,cn1,kindK,widthS,this]
  · have := rd_i16 t.n r;simp [rd1,valueS,cn1,kindK,widthS,this]
  · have := rd_i32 t.n r;simp [rd1,valueS,cn1,kindK,widthS,this]
  · have := rd_i64 t.n r;simp [rd1,valueS,cn1,kindK,widthS,this]
  · have := rd_u16 t.n r;simp [rd1,valueS,cn1,kindK,widthS,this]
  · have := rd_i64 t.n r;simp [rd1,valueS,cn1,kindK,widthS,this]
theorem valueS_pos (kind : Int) (sub : List Fld) (null : Bool) (t : Tree) (hk : kind = 0 ∨ numK kind ∨ (7 ≤ kind ∧ kind ≤ 10)) (hp : kind = 10 → 1 ≤ (pw sub v flex t).length) : 1 ≤ (valueS pw kind sub null v flex t).length := by
  have hc : ∀ n m,1 ≤ n → 1 ≤ (countedS flex null m n).length := fun n m hn => by
    unfold countedS
    split
    · simp
    · split
      · exact uvarS_pos _
      · split <;> rw [fixedS_len] <;> omega
  unfold valueS
  split
  · simp
  · split
    · simp;omega
    · split
      · rw [List.length_append];have := hc 2 (if null = true then [] else wholeS t.s).length (by omega);omega
      · split
        · rw [List.length_append];have := hc 4 (if null = true then [] else wholeS t.s).length (by omega);omega
        · split
          · rename_i h;exact hp h
          · rw [fixedS_len];unfold widthS;repeat (first | omega | split)
theorem rdMany_values (kind : Int) (sub : List Fld) (hk : kind = 0 ∨ numK kind ∨ (7 ≤ kind ∧ kind ≤ 10)) : ∀ (l : List Tree) (r : List UInt8),(∀ x ∈ l,kind = 10 → ∀ r,pr sub (some (pw sub v flex x ++ r)) = (pc sub x,some r)) →
    rdMany (rd1 pr kind sub false flex) l.length (some (l.flatMap (fun x => valueS pw kind sub false v flex x) ++ r)) = (l.map (cn1 pc kind sub false),some r)
  | [],r,_ => rfl
  | x :: l,r,h => by
    have h1 := rd1_value (pr := pr) (pw := pw) (pc := pc) (v := v) (flex := flex) kind sub false false x (l.flatMap (fun x => valueS pw kind sub false v flex x) ++ r) hk (fun h => h) (fun hk => h x (by simp) hk _)
    have h2 := rdMany_values kind sub hk l r fun y hy => h y (by simp [hy])
    rw [List.length_cons,List.flatMap_cons,List.append_assoc,rdMany,h1]
    simp only [h2,List.map_cons]
theorem rdF_field (f : Fld) (t : Tree) (r : List UInt8) (hk : f.kind = 11 ∨ f.kind = 0 ∨ numK f.kind ∨ (7 ≤ f.kind ∧ f.kind ≤ 10)) (ho : f.of = 0 ∨ numK f.of ∨ (7 ≤ f.of ∧ f.of ≤ 10))
    (hp : ∀ x,(f.kind = 10 ∧ x = t) ∨ (f.kind = 11 ∧ f.of = 10 ∧ x ∈ t.l) → ∀ r,pr f.sub (some (pw f.sub v flex x ++ r)) = (pc f.sub x,some r)) (hpos : f.kind = 11 → f.of = 10 → ∀ x ∈ t.l,1 ≤ (pw f.sub v flex x).length) :
    rdF pr v flex f (some (fieldS pw f v flex t ++ r)) = (cnF pc v f t,some r) := by
  unfold rdF cnF fieldS
  by_cases h11 : f.kind = 11
  · rw [if_pos h11,if_pos h11,if_pos h11]
    unfold rdList
    obtain ⟨l,hl⟩ : ∃ l,l = (if nullS f v t = true then [] else thingsS t.l) := ⟨_,rfl⟩
    have hmem : ∀ x ∈ l,x ∈ t.l := fun x hx => by
      rw [hl] at hx
      split at hx
      · cases hx
      · exact List.mem_of_mem_take hx
    have hlen : l.length ≤ 32767 := by
      rw [hl];split
      · simp
      · simp only [thingsS,List.length_take];omega
    rw [← hl,List.append_assoc]
    have hc := rdCnt_counted flex (nullS f v t) l.length (l.flatMap (fun x => valueS pw f.of f.sub false v flex x) ++ r) hlen
    have hge : l.length ≤ (l.flatMap fun x => valueS pw f.of f.sub false v flex x).length := by
      have : ∀ (l : List Tree),(∀ x ∈ l,x ∈ t.l) → l.length ≤ (l.flatMap fun x => valueS pw f.of f.sub false v flex x).length := by
        intro l
        induction l with
        | nil => intro _;simp
        | cons x l ih =>
          intro h
          have h1 := valueS_pos (pw := pw) (v := v) (flex := flex) f.of f.sub false x ho (fun h10 => hpos h11 h10 x (h x (by simp)))
          have h2 := ih fun y hy => h y (by simp [hy])
          rw [List.flatMap_cons,List.length_append,List.length_cons];omega
      exact this l hmem
    have ha : rdALen flex (some (countedS flex (nullS f v t) l.length 4 ++ (l.flatMap (fun x => valueS pw f.of f.sub false v flex x) ++ r))) = (if nullS f v t = true then -1 else (l.length : Int),some (l.flatMap (fun x => valueS pw f.of f.sub false v flex x) ++ r)) := by
      unfold rdALen
      rw [hc,if_neg]
      simp only [stLen,Option.getD_some,List.length_append]
      split <;> omega
    have hM := rdMany_values (pr := pr) (pw := pw) (pc := pc) (v := v) (flex := flex) f.of f.sub ho l r fun x hx h10 r => hp x (.inr ⟨h11,h10,hmem x hx⟩) r
    rw [ha]
    have hq : (if nullS f v t = true then (-1 : Int) else (l.length : Int)).toNat = l.length := by
      split
      · rename_i h;rw [if_pos h] at hl;rw [hl];rfl
      · simp
    simp only [hq,hM]
    congr 1
    cases hnu : nullS f v t with
    | true => rw [hnu] at hl;simp only [if_true] at hl;subst hl;rfl
    | false => rw [hnu] at hl;simp only [Bool.false_eq_true,if_false] at hl;subst hl;rfl
  by_cases hn : f.kind = 10 ∧ 0 ≤ f.null
  · rw [if_neg h11,if_neg h11,if_neg h11,if_pos hn,if_pos hn,if_pos hn]
    cases hq : nullS f v t with
    | true =>
      simp only [if_true]
      have h := rd_i8 (-1) r
      unfold rdOpt
      rw [h,if_pos (.inl rfl)]
    | false =>
      simp only [Bool.false_eq_true,if_false,List.append_assoc]
      have h := rd_i8 1 (pw f.sub v flex t ++ r)
      unfold rdOpt
      rw [h,if_neg (fun h => h.elim (fun h => absurd (show (1 : Int) = -1 from h) (by decide)) (fun h => by cases h))]
      exact hp t (.inl ⟨hn.1,rfl⟩) r
  · rw [if_neg h11,if_neg h11,if_neg h11,if_neg hn,if_neg hn,if_neg hn]
    refine rd1_value f.kind f.sub (nullS f v t) (mayS f v) t r (by rcases hk with h | h | h | h <;> first | exact absurd h h11 | simp [h]) (fun h => ?_) (fun h10 => hp t (.inl ⟨h10,rfl⟩) r)
    unfold nullS at h
    unfold mayS
    simp only [Bool.and_eq_true,decide_eq_true_eq] at h ⊢
    exact ⟨h.1.2,h.2⟩
end

theorem Sized.el {N : Nat} {t : Tree} (h : Sized N t) {k : Nat} (hk : k < t.l.length) : ∃ M,Sized M t.l[k] := by
  cases h with
  | mk ns hl he hk' hN => exact ⟨_,he k hk (by simp only [Tree.l] at hk;omega)⟩
theorem rdTag_unk (u : List TagD) (x : TagD) (r : List UInt8) (hk : x.1 < 4294967296) : rdTag u (some (unkT x ++ r)) = (tagPut u (x.1,wholeS x.2),some r) := by
  have hw := wholeS_len x.2
  have e : unkT x ++ r = uvarS x.1 ++ (uvarS (wholeS x.2).length ++ (wholeS x.2 ++ r)) := by simp [unkT,oneTag]
  unfold rdTag
  rw [e,rdUv_uvar _ _ hk]
  simp only
  rw [rdUv_uvar _ _ (by omega)]
  simp only
  rw [rdSpan_app]
theorem rdTagsN_unk : ∀ (l acc : List TagD) (r : List UInt8),(∀ x ∈ l,x.1 < 4294967296) → (∀ x ∈ l,∀ y ∈ acc,y.1 ≠ x.1) → l.Pairwise (fun a b => a.1 ≠ b.1) →
    rdTagsN l.length acc (some (l.flatMap unkT ++ r)) = (acc ++ l.map fun u => (u.1,wholeS u.2),some r)
  | [],acc,r,_,_,_ => by simp [rdTagsN]
  | x :: l,acc,r,h1,h2,h3 => by
    rw [List.length_cons,List.flatMap_cons,List.append_assoc,rdTagsN,rdTag_unk acc x _ (h1 x (by simp))]
    have hn : tagPut acc (x.1,wholeS x.2) = acc ++ [(x.1,wholeS x.2)] := tagPut_new fun z hz => h2 x (by simp) z hz
    simp only [hn]
    rw [List.pairwise_cons] at h3
    rw [rdTagsN_unk l _ r (fun y hy => h1 y (by simp [hy])) (fun y hy z hz => by
      rcases List.mem_append.1 hz with hz | hz
      · exact h2 y (by simp [hy]) z hz
      · simp only [List.mem_singleton] at hz;rw [hz];exact h3.1 y hy) h3.2]
    simp
theorem rdTags_unk (fs : List Fld) (u : List TagD) (r : List UInt8) (hk : ∀ x ∈ u,x.1 < 4294967296) :
    rdTags (some (uvarS (unknownS fs u).length ++ ((unknownS fs u).flatMap unkT ++ r))) = ((unknownS fs u).map fun u => (u.1,wholeS u.2),some r) := by
  have h := unknownS_spec fs u
  have hl := unknownS_len' fs u
  unfold rdTags
  rw [rdUv_uvar _ _ (by omega)]
  simp only
  rw [rdTagsN_unk _ _ _ (fun x hx => hk x (h.2 x hx).1) (fun _ _ _ h => by cases h) (h.1.imp fun h => by omega)]
  simp

def wideS (v : Int) (flex : Bool) (fs : List Fld) : Bool := flex || fs.any fun f => decide (f.tag < 0) && hasS f v
def okR : Nat → Int → Bool → List Fld → Bool
  | 0,_,_,fs => fs.isEmpty
  | d + 1,v,flex,fs => fs.all fun f => decide (f.tag < 0 ∧ (f.kind = 11 ∨ f.kind = 0 ∨ numK f.kind ∨ (7 ≤ f.kind ∧ f.kind ≤ 10)) ∧ (f.of = 0 ∨ numK f.of ∨ (7 ≤ f.of ∧ f.of ≤ 10))) && okR d v flex f.sub && (!(hasS f v) || wideS v flex f.sub || decide (¬ (f.kind = 10 ∨ (f.kind = 11 ∧ f.of = 10))))
theorem okR_el {d : Nat} {v : Int} {flex : Bool} {fs : List Fld} (h : okR (d + 1) v flex fs = true) {f : Fld} (hf : f ∈ fs) :
    f.tag < 0 ∧ (f.kind = 11 ∨ f.kind = 0 ∨ numK f.kind ∨ (7 ≤ f.kind ∧ f.kind ≤ 10)) ∧ (f.of = 0 ∨ numK f.of ∨ (7 ≤ f.of ∧ f.of ≤ 10)) ∧ True ∧ okR d v flex f.sub = true ∧ (hasS f v = true → (f.kind = 10 ∨ (f.kind = 11 ∧ f.of = 10)) → wideS v flex f.sub = true) := by
  simp only [okR,List.all_eq_true] at h
  have := h f hf
  rw [Bool.and_eq_true,Bool.and_eq_true,decide_eq_true_eq] at this
  obtain ⟨⟨⟨h1,h2,h3⟩,h5⟩,h6⟩ := this
  refine ⟨h1,h2,h3,trivial,h5,fun h7 h8 => ?_⟩
  rw [h7] at h6
  simp only [Bool.not_true,Bool.false_or,Bool.or_eq_true,decide_eq_true_eq] at h6
  rcases h6 with h6 | h6
  · exact h6
  · exact absurd h8 h6
section
variable {pr : List Fld → St → Tree × St} {pw : List Fld → Int → Bool → Tree → List UInt8} {pc : List Fld → Tree → Tree} {v : Int} {flex : Bool}
theorem fieldS_pos (f : Fld) (t : Tree) (hk : f.kind = 11 ∨ f.kind = 0 ∨ numK f.kind ∨ (7 ≤ f.kind ∧ f.kind ≤ 10)) (hp : f.kind = 10 → 1 ≤ (pw f.sub v flex t).length) : 1 ≤ (fieldS pw f v flex t).length := by
  unfold fieldS
  by_cases h11 : f.kind = 11
  · rw [if_pos h11,List.length_append]
    have hc : ∀ m,1 ≤ (countedS flex (nullS f v t) m 4).length := fun m => by
      unfold countedS
      split
      · simp
      · split
        · exact uvarS_pos _
        · split <;> rw [fixedS_len] <;> omega
    have := hc (if nullS f v t = true then [] else thingsS t.l).length
    omega
  by_cases hn : f.kind = 10 ∧ 0 ≤ f.null
  · rw [if_neg h11,if_pos hn]
    split
    · rw [fixedS_len];omega
    · rw [List.length_append,fixedS_len];omega
  · rw [if_neg h11,if_neg hn]
    exact valueS_pos _ _ _ _ (by rcases hk with h | h | h | h <;> first | exact absurd h h11 | simp [h]) hp
theorem rdL_plain (dp : List Fld → Tree) (t : Tree) : ∀ (fs : List Fld) (i : Nat) (r : List UInt8),
    (∀ f ∈ fs,hasS f v = true → ∀ (i : Nat) (r : List UInt8),rdF pr v flex f (some (fieldS pw f v flex (t.at i) ++ r)) = (cnF pc v f (t.at i),some r)) →
    rdL pr dp v flex fs (some (plainL pw v flex t fs i ++ r)) = (cnL pc dp v t fs i,some r)
  | [],_,r,_ => rfl
  | f :: fs,i,r,h => by
    have ih := fun r => rdL_plain dp t fs (i + 1) r fun g hg => h g (by simp [hg])
    rw [rdL,plainL,cnL]
    by_cases hc : f.tag < 0 ∧ hasS f v = true
    · rw [if_pos hc,if_pos hc,if_pos hc,List.append_assoc,h f (by simp) hc.2 i _]
      simp only [ih]
    · rw [if_neg hc,if_neg hc,if_neg hc,List.nil_append]
      simp only [ih]
end
theorem rdP_part (v : Int) (flex : Bool) : ∀ (d : Nat) (fs : List Fld) (N : Nat) (t : Tree),okR d v flex fs = true → Sized N t →
    (∀ r,rdP (d + 1) v flex fs (some (partS (d + 1) fs v flex t ++ r)) = (cnP (d + 1) v flex fs t,some r)) ∧ (wideS v flex fs = true → 1 ≤ (partS (d + 1) fs v flex t).length) := by
  intro d
  have key : ∀ (d : Nat) (fs : List Fld) (t : Tree),(∀ f ∈ fs,f.tag < 0) → (∀ x ∈ t.u,x.1 < 4294967296) →
      (∀ f ∈ fs,hasS f v = true → ∀ (i : Nat) (r : List UInt8),rdF (rdP d v flex) v flex f (some (fieldS (partS d) f v flex (t.at i) ++ r)) = (cnF (cnP d v flex) v f (t.at i),some r)) →
      (∀ f ∈ fs,hasS f v = true → ∀ (i : Nat),1 ≤ (fieldS (partS d) f v flex (t.at i)).length) →
      (∀ r,rdP (d + 1) v flex fs (some (partS (d + 1) fs v flex t ++ r)) = (cnP (d + 1) v flex fs t,some r)) ∧ (wideS v flex fs = true → 1 ≤ (partS (d + 1) fs v flex t).length) := by
    intro d fs t htag hu h hpos
    have hk := knownS_none htag
    have e2 : tagsS (partS d) (d + 1) fs v flex t = [] := by unfold tagsS;rw [hk];rfl
    have hp := fun r => rdL_plain (pr := rdP d v flex) (pw := partS d) (pc := cnP d v flex) (flex := flex) (dfP d) t fs 0 r h
    constructor
    · intro r
      rw [partS_eq]
      unfold partT
      rw [plainS_L,e2]
      rw [rdP,cnP]
      cases flex with
      | true =>
        simp only [if_true,List.length_nil,Nat.zero_add,List.flatMap_nil,List.nil_append,List.append_assoc]
        rw [hp]
        simp only [rdTags_unk fs t.u r hu]
      | false =>
        simp only [Bool.false_eq_true,if_false]
        rw [hp]
    · intro hw
      rw [partS_eq]
      unfold partT
      cases flex with
      | true =>
        rw [if_pos rfl,List.length_append,List.length_append]
        have := uvarS_pos ((tagsS (partS d) (d + 1) fs v true t).length + (unknownS fs t.u).length)
        omega
      | false =>
        rw [if_neg (by decide),plainS_L]
        simp only [wideS,Bool.false_or,List.any_eq_true,Bool.and_eq_true,decide_eq_true_eq] at hw
        obtain ⟨f,hf,h1,h2⟩ := hw
        have : ∀ (l : List Fld) (i : Nat),f ∈ l → (∀ g ∈ l,g ∈ fs) → 1 ≤ (plainL (partS d) v false t l i).length := by
          intro l
          induction l with
          | nil => intro _ h;cases h
          | cons g l ih =>
            intro i hm hs
            rw [plainL,List.length_append]
            rcases List.mem_cons.1 hm with rfl | hm
            · rw [if_pos ⟨h1,h2⟩]
              have := hpos f hf h2 i
              omega
            · have := ih (i + 1) hm fun g hg => hs g (by simp [hg])
              omega
        exact this fs 0 hf fun _ h => h
  induction d with
  | zero =>
    intro fs N t h hs
    have hnil : fs = [] := by simpa [okR] using h
    subst hnil
    have hu : ∀ x ∈ t.u,x.1 < 4294967296 := by
      cases hs with
      | mk ns hl he hk hN => exact hk
    exact key 0 [] t (fun _ h => by cases h) hu (fun _ h => by cases h) (fun _ h => by cases h)
  | succ d ih =>
    intro fs N t h hs
    have hu : ∀ x ∈ t.u,x.1 < 4294967296 := by
      cases hs with
      | mk ns hl he hk hN => exact hk
    have sub : ∀ (f : Fld) (i : Nat),okR d v flex f.sub = true → ∀ x,(f.kind = 10 ∧ x = t.at i) ∨ (f.kind = 11 ∧ f.of = 10 ∧ x ∈ (t.at i).l) → ∃ M,Sized M x := by
      intro f i _ x hx
      have ha := hs.at i
      rcases hx with ⟨_,rfl⟩ | ⟨_,_,hx⟩
      · exact ⟨_,ha⟩
      · obtain ⟨k,hk,rfl⟩ := List.getElem_of_mem hx
        exact ha.el hk
    refine key (d + 1) fs t (fun f hf => (okR_el h hf).1) hu (fun f hf hh i r => ?_) (fun f hf hh i => ?_)
    · obtain ⟨g1,g2,g3,g4,g5,g6⟩ := okR_el h hf
      refine rdF_field f (t.at i) r g2 g3 (fun x hx r => ?_) (fun h11 h10 x hx => ?_)
      · obtain ⟨M,hM⟩ := sub f i g5 x hx
        exact (ih f.sub M x g5 hM).1 r
      · obtain ⟨M,hM⟩ := sub f i g5 x (.inr ⟨h11,h10,hx⟩)
        exact (ih f.sub M x g5 hM).2 (g6 hh (.inr ⟨h11,h10⟩))
    · obtain ⟨g1,g2,g3,g4,g5,g6⟩ := okR_el h hf
      refine fieldS_pos f (t.at i) g2 fun h10 => ?_
      obtain ⟨M,hM⟩ := sub f i g5 (t.at i) (.inl ⟨h10,rfl⟩)
      exact (ih f.sub M (t.at i) g5 hM).2 (g6 hh (.inl h10))

theorem fixedS_congr {n m : Int} : ∀ (k : Nat),n % ((256 ^ k : Nat) : Int) = m % ((256 ^ k : Nat) : Int) → fixedS n k = fixedS m k
  | 0,_ => rfl
  | k + 1,h => by
    have hpos : 0 < 256 ^ k := Nat.pow_pos (by omega)
    have e : ((256 ^ (k + 1) : Nat) : Int) = 256 * ((256 ^ k : Nat) : Int) := by rw [Nat.pow_succ,Int.natCast_mul,Int.mul_comm];rfl
    have hp : (2 : Int) ^ (8 * k) = ((256 ^ k : Nat) : Int) := by rw [Int.pow_mul];simp
    rw [e] at h
    have h1 := b8_fdiv (x := n) (y := m) (256 ^ k) h hpos
    have h2 : n % ((256 ^ k : Nat) : Int) = m % ((256 ^ k : Nat) : Int) := by
      have := congrArg (· % ((256 ^ k : Nat) : Int)) h
      simp only [Int.mul_comm 256] at this
      rwa [Int.emod_emod_of_dvd _ (Int.dvd_mul_right _ _),Int.emod_emod_of_dvd _ (Int.dvd_mul_right _ _)] at this
    show b8 (n.fdiv (2 ^ (8 * k))) :: fixedS n k = b8 (m.fdiv (2 ^ (8 * k))) :: fixedS m k
    rw [hp,h1,fixedS_congr k h2]
theorem fixedS_wrap (k : Int) (hk : numK k) (n : Int) : fixedS ((kindK k).wrap n) (widthS k) = fixedS n (widthS k) := by
  refine fixedS_congr _ ?_
  rcases hk with h | h | h | h | h | h <;> subst h <;> simp [kindK,widthS,IntKind.wrap,IntKind.bits,IntKind.signed] <;> (try split) <;> omega
section
variable {pw : List Fld → Int → Bool → Tree → List UInt8} {pc : List Fld → Tree → Tree} {P : List Fld → Tree → Prop} {v : Int} {flex : Bool}
theorem valueS_cn (kind : Int) (sub : List Fld) (null : Bool) (t : Tree) (hk : kind = 0 ∨ numK kind ∨ (7 ≤ kind ∧ kind ≤ 10)) (hp : kind = 10 → pw sub v flex (pc sub t) = pw sub v flex t) :
    valueS pw kind sub null v flex (cn1 pc kind sub null t) = valueS pw kind sub null v flex t := by
  have hw : wholeS (wholeS t.s) = wholeS t.s := wholeS_id (wholeS_len _)
  by_cases h0 : kind = 0
  · subst h0;simp [valueS,cn1,Tree.num,Tree.n]
  by_cases h7 : kind = 7
  · subst h7
    have e1 : ∀ x,valueS pw 7 sub null v flex x = uuidS x.s := fun x => by simp [valueS,uuidS]
    have e2 : cn1 pc 7 sub null t = .oct false (uuidS t.s) := by simp [cn1]
    rw [e1,e1,e2];exact uuidS_idem _
  by_cases h8 : kind = 8
  · subst h8
    have e1 : ∀ x,valueS pw 8 sub null v flex x = countedS flex null (if null = true then [] else wholeS x.s).length 2 ++ (if null = true then [] else wholeS x.s) := fun x => by simp [valueS]
    have e2 : cn1 pc 8 sub null t = .oct null (if null = true then [] else wholeS t.s) := by simp [cn1]
    rw [e1,e1,e2]
    cases null with
    | true => rfl
    | false =>
      show countedS flex false (wholeS (wholeS t.s)).length 2 ++ wholeS (wholeS t.s) = countedS flex false (wholeS t.s).length 2 ++ wholeS t.s
      rw [hw]
  by_cases h9 : kind = 9
  · subst h9
    have e1 : ∀ x,valueS pw 9 sub null v flex x = countedS flex null (if null = true then [] else wholeS x.s).length 4 ++ (if null = true then [] else wholeS x.s) := fun x => by simp [valueS]
    have e2 : cn1 pc 9 sub null t = .oct null (if null = true then [] else wholeS t.s) := by simp [cn1]
    rw [e1,e1,e2]
    cases null with
    | true => rfl
    | false =>
      show countedS flex false (wholeS (wholeS t.s)).length 4 ++ wholeS (wholeS t.s) = countedS flex false (wholeS t.s).length 4 ++ wholeS t.s
      rw [hw]
  by_cases h10 : kind = 10
  · subst h10
    have e1 : ∀ x,valueS pw 10 sub null v flex x = pw sub v flex x := fun x => by simp [valueS]
    have e2 : cn1 pc 10 sub null t = pc sub t := by simp [cn1]
    rw [e1,e1,e2];exact hp rfl
  have hn : numK kind := by rcases hk with h | h | h <;> first | exact h | omega
  have e1 : ∀ x,valueS pw kind sub null v flex x = fixedS x.n (widthS kind) := fun x => by simp [valueS,h0,h7,h8,h9,h10]
  have e2 : cn1 pc kind sub null t = .num ((kindK kind).wrap t.n) := by simp [cn1,h0,h7,h8,h9,h10]
  rw [e1,e1,e2];exact fixedS_wrap kind hn t.n
theorem cn1_null (kind : Int) (sub : List Fld) (null : Bool) (t : Tree) (h : kind = 8 ∨ kind = 9) : (cn1 pc kind sub null t).null = null := by
  unfold cn1;rw [if_neg (by omega),if_neg (by omega),if_pos h];rfl
theorem cn1_fit (kind : Int) (sub : List Fld) (null : Bool) (t : Tree) (hp : kind = 10 → P sub (pc sub t)) : Fit1 P kind sub (cn1 pc kind sub null t) := by
  refine ⟨fun h => ?_,fun h => ?_⟩
  · unfold cn1;rw [if_neg (by omega),if_neg (by omega),if_pos h]
    show (if null = true then [] else wholeS t.s).length ≤ 32767
    split
    · simp
    · exact wholeS_len _
  · subst h;have e2 : cn1 pc 10 sub null t = pc sub t := by simp [cn1]
    rw [e2];exact hp rfl
theorem Tree.l_mk (n : Int) (s : List UInt8) (b : Bool) (l : List Tree) (u : List TagD) : (Tree.mk n s b l u).l = l := rfl
theorem nilS_bool (f : Fld) (b : Bool) (n : Nat) : (0 ≤ f.null → nilS f v (if (b && decide (f.null ≥ 0) && decide (v ≥ f.null)) = true then -1 else (n : Int)) = (b && decide (f.null ≥ 0) && decide (v ≥ f.null))) := by
  intro h
  unfold nilS
  rw [if_pos h]
  have h1 : decide (f.null ≥ 0) = true := by simpa using h
  rw [h1]
  by_cases h2 : f.null ≤ v
  · have h3 : decide (v ≥ f.null) = true := by simpa using h2
    rw [h3]
    cases b <;> simp
  · have h3 : decide (v ≥ f.null) = false := by simpa using h2
    rw [h3];simp
theorem nilS_eq (f : Fld) (t : Tree) (n : Nat) (h : 0 ≤ f.null) : nilS f v (if nullS f v t = true then -1 else (n : Int)) = nullS f v t := nilS_bool f t.null n h
theorem nilS_null (f : Fld) (t : Tree) (n : Nat) (l : List Tree) : nullS f v (.mk 0 [] (nilS f v (if nullS f v t = true then -1 else (n : Int))) l []) = nullS f v t := by
  by_cases h : 0 ≤ f.null
  · rw [nilS_eq f t n h]
    exact (nullS_idem f v t (.mk 0 [] (nullS f v t) l []) rfl).symm
  · rw [nullS_neg (by omega),nullS_neg (by omega)]
theorem fieldS_cn (f : Fld) (t : Tree) (hk : f.kind = 11 ∨ f.kind = 0 ∨ numK f.kind ∨ (7 ≤ f.kind ∧ f.kind ≤ 10)) (ho : f.of = 0 ∨ numK f.of ∨ (7 ≤ f.of ∧ f.of ≤ 10)) (hp : ∀ x,pw f.sub v flex (pc f.sub x) = pw f.sub v flex x) (hpn : ∀ x,(pc f.sub x).null = false) :
    fieldS pw f v flex (cnF pc v f t) = fieldS pw f v flex t := by
  unfold cnF
  by_cases h11 : f.kind = 11
  · rw [if_pos h11]
    have hnu : nullS f v (.mk 0 [] (nilS f v (if nullS f v t = true then -1 else (((thingsS t.l).length : Nat) : Int))) (if nullS f v t = true then [] else (thingsS t.l).map (cn1 pc f.of f.sub false)) []) = nullS f v t := nilS_null f t _ _
    unfold fieldS
    rw [if_pos h11,if_pos h11,hnu]
    cases hq : nullS f v t with
    | true => rfl
    | false =>
      simp only [Bool.false_eq_true,if_false,Tree.l_mk]
      have hth : thingsS ((thingsS t.l).map (cn1 pc f.of f.sub false)) = (thingsS t.l).map (cn1 pc f.of f.sub false) := thingsS_id (by simp only [List.length_map,thingsS,List.length_take];omega)
      rw [hth,List.length_map,List.flatMap_map]
      congr 1
      refine flatMap_ext fun x _ => valueS_cn f.of f.sub false x ho fun _ => hp x
  by_cases hn : f.kind = 10 ∧ 0 ≤ f.null
  · rw [if_neg h11,if_pos hn]
    unfold fieldS
    rw [if_neg h11,if_neg h11,if_pos hn,if_pos hn]
    cases hq : nullS f v t with
    | true =>
      have h1 : nullS f v (.mk 0 [] true [] []) = true := by
        unfold nullS at hq ⊢
        simp only [Bool.and_eq_true] at hq ⊢
        exact ⟨⟨rfl,hq.1.2⟩,hq.2⟩
      simp only [if_true,h1]
    | false =>
      simp only [Bool.false_eq_true,if_false,nullS_false f v _ (hpn t),hp t]
  · rw [if_neg h11,if_neg hn]
    unfold fieldS
    rw [if_neg h11,if_neg h11,if_neg hn,if_neg hn]
    have e : nullS f v (cn1 pc f.kind f.sub (nullS f v t) t) = nullS f v t ∨ (f.kind ≠ 8 ∧ f.kind ≠ 9) := by
      by_cases h89 : f.kind = 8 ∨ f.kind = 9
      · exact .inl ((nullS_idem f v t (cn1 pc f.kind f.sub (nullS f v t) t) (cn1_null _ _ _ _ h89)).symm.trans (cn1_null _ _ _ _ h89))
      · exact .inr (not_or.1 h89)
    have hk' : f.kind = 0 ∨ numK f.kind ∨ (7 ≤ f.kind ∧ f.kind ≤ 10) := by rcases hk with h | h | h | h <;> first | exact absurd h h11 | simp [h]
    rcases e with e | e
    · rw [e];exact valueS_cn _ _ _ _ hk' fun _ => hp t
    · have : ∀ a b x,valueS pw f.kind f.sub a v flex x = valueS pw f.kind f.sub b v flex x := fun a b x => by
        unfold valueS;rw [if_neg e.1,if_neg e.2,if_neg e.1,if_neg e.2]
      rw [this _ (nullS f v t)];exact valueS_cn _ _ _ _ hk' fun _ => hp t
theorem fit_cn (f : Fld) (t : Tree) (hk : f.kind = 11 ∨ f.kind = 0 ∨ numK f.kind ∨ (7 ≤ f.kind ∧ f.kind ≤ 10)) (hp : ∀ x,P f.sub (pc f.sub x)) (h0 : P f.sub (.mk 0 [] true [] [])) (hpn : ∀ x,(pc f.sub x).null = false) : FitWF P v f (cnF pc v f t) := by
  unfold cnF
  by_cases h11 : f.kind = 11
  · rw [if_pos h11]
    have hnu : nullS f v (.mk 0 [] (nilS f v (if nullS f v t = true then -1 else (((thingsS t.l).length : Nat) : Int))) (if nullS f v t = true then [] else (thingsS t.l).map (cn1 pc f.of f.sub false)) []) = nullS f v t := nilS_null f t _ _
    refine ⟨?_,?_⟩
    · by_cases h0 : 0 ≤ f.null
      · left
        rw [hnu]
        exact nilS_eq f t _ h0
      · have hq := nullS_neg (f := f) (v := v) (t := t) (by omega)
        by_cases hl : (thingsS t.l).length = 0
        · right
          refine ⟨by omega,.inr h11,?_,rfl,?_⟩
          · show nilS f v _ = true
            unfold nilS;rw [if_neg h0,hq];simp [hl]
          · have := List.eq_nil_of_length_eq_zero hl
            show (if nullS f v t = true then [] else (thingsS t.l).map (cn1 pc f.of f.sub false)) = []
            rw [this];simp
        · left
          rw [hnu,hq]
          show nilS f v _ = false
          unfold nilS;rw [if_neg h0];simp only [Bool.false_eq_true,if_false,decide_eq_false_iff_not];omega
    · rw [if_pos h11]
      refine ⟨?_,fun x hx => ?_⟩
      · show (if nullS f v t = true then [] else (thingsS t.l).map (cn1 pc f.of f.sub false)).length ≤ 32767
        split
        · simp
        · simp only [List.length_map,thingsS,List.length_take];omega
      · have hx : x ∈ (if nullS f v t = true then [] else (thingsS t.l).map (cn1 pc f.of f.sub false)) := hx
        split at hx
        · cases hx
        · obtain ⟨y,_,rfl⟩ := List.mem_map.1 hx
          exact cn1_fit _ _ _ _ fun _ => hp y
  by_cases hn : f.kind = 10 ∧ 0 ≤ f.null
  · rw [if_neg h11,if_pos hn]
    cases hq : nullS f v t with
    | true =>
      have h1 : nullS f v (.mk 0 [] true [] []) = true := by
        unfold nullS at hq ⊢
        simp only [Bool.and_eq_true] at hq ⊢
        exact ⟨⟨rfl,hq.1.2⟩,hq.2⟩
      simp only [if_true]
      refine ⟨.inl ?_,by rw [if_neg h11];exact ⟨fun h => by omega,fun _ => h0⟩⟩
      rw [h1];rfl
    | false =>
      simp only [Bool.false_eq_true,if_false]
      refine ⟨.inl ?_,by rw [if_neg h11];exact ⟨fun h => by omega,fun _ => hp t⟩⟩
      rw [hpn t,nullS_false f v _ (hpn t)]
  · rw [if_neg h11,if_neg hn]
    refine ⟨.inl ?_,by rw [if_neg h11];exact cn1_fit _ _ _ _ fun _ => hp t⟩
    by_cases h89 : f.kind = 8 ∨ f.kind = 9
    · exact nullS_idem f v t (cn1 pc f.kind f.sub (nullS f v t) t) (cn1_null _ _ _ _ h89)
    · have : (cn1 pc f.kind f.sub (nullS f v t) t).null = false := by
        unfold cn1
        split
        · rfl
        · split
          · rfl
          · try rw [if_neg h89]
            split
            · exact hpn t
            · rfl
      rw [this];exact (nullS_false f v _ this).symm
end
theorem cnL_get (pc : List Fld → Tree → Tree) (dp : List Fld → Tree) (v : Int) (t : Tree) : ∀ (fs : List Fld) (i k : Nat) (h : k < fs.length),(cnL pc dp v t fs i).getD k .zero = if fs[k].tag < 0 ∧ hasS fs[k] v = true then cnF pc v fs[k] (t.at (i + k)) else dfF dp fs[k]
  | f :: fs,i,0,h => by simp [cnL]
  | f :: fs,i,k + 1,h => by
    have := cnL_get pc dp v t fs (i + 1) k (by simpa using h)
    simp only [cnL,List.getD_cons_succ,List.getElem_cons_succ]
    rw [this,show i + 1 + k = i + (k + 1) by omega]
theorem cnP_null (d : Nat) (v : Int) (flex : Bool) (fs : List Fld) (t : Tree) : (cnP d v flex fs t).null = false := by
  cases d <;> rfl
theorem FitW_none (v : Int) (flex : Bool) (b : Bool) : ∀ (d : Nat) (fs : List Fld),okR d v flex fs = true → FitW v (d + 1) fs (.mk 0 [] b [] [])
  | d,fs,h => by
    refine ⟨?_,by simp [Tree.u],fun x hx => (by cases hx),List.Pairwise.nil⟩
    have : ∀ (l : List Fld) (i : Nat),(∀ f ∈ l,f ∈ fs) → FitWL (FitW v d) v (.mk 0 [] b [] []) l i := by
      intro l
      induction l with
      | nil => intro i _;trivial
      | cons f l ihl =>
        intro i hm
        refine ⟨fun _ => ?_,ihl (i + 1) fun g hg => hm g (by simp [hg])⟩
        have ea : (Tree.mk 0 [] b [] []).at i = .zero := by simp [Tree.at,Tree.l]
        rw [ea]
        refine ⟨.inl (nullS_false f v _ rfl).symm,?_⟩
        split
        · exact ⟨by simp [Tree.zero,Tree.l],fun x hx => by cases hx⟩
        · refine ⟨fun _ => by simp [Tree.zero,Tree.s],fun _ => ?_⟩
          cases d with
          | zero =>
            have hnil : fs = [] := by simpa [okR] using h
            have := hm f (by simp)
            rw [hnil] at this;cases this
          | succ d => exact FitW_none v flex false d f.sub (okR_el h (hm f (by simp))).2.2.2.2.1
    exact this fs 0 fun _ h => h
theorem partS_cn (v : Int) (flex : Bool) : ∀ (d : Nat) (fs : List Fld) (t : Tree),okR d v flex fs = true →
    partS (d + 1) fs v flex (cnP (d + 1) v flex fs t) = partS (d + 1) fs v flex t ∧ FitW v (d + 1) fs (cnP (d + 1) v flex fs t) := by
  have key : ∀ (d : Nat) (fs : List Fld) (t : Tree),(∀ f ∈ fs,f.tag < 0) → (∀ f ∈ fs,∀ x,fieldS (partS d) f v flex (cnF (cnP d v flex) v f x) = fieldS (partS d) f v flex x) → (∀ f ∈ fs,∀ x,FitWF (FitW v d) v f (cnF (cnP d v flex) v f x)) →
      partS (d + 1) fs v flex (cnP (d + 1) v flex fs t) = partS (d + 1) fs v flex t ∧ FitW v (d + 1) fs (cnP (d + 1) v flex fs t) := by
    intro d fs t htag hf hfit
    have hk := knownS_none htag
    have e2 : ∀ x,tagsS (partS d) (d + 1) fs v flex x = [] := fun x => by unfold tagsS;rw [hk];rfl
    have hat : ∀ k (h : k < fs.length),(cnP (d + 1) v flex fs t).at k = if fs[k].tag < 0 ∧ hasS fs[k] v = true then cnF (cnP d v flex) v fs[k] (t.at k) else dfF (dfP d) fs[k] := fun k h => by
      have := cnL_get (cnP d v flex) (dfP d) v t fs 0 k h
      rw [Nat.zero_add] at this
      exact this
    have hu : (cnP (d + 1) v flex fs t).u = if flex = true then fitU fs t.u else [] := rfl
    constructor
    · have e6 : plainS (partS d) fs v flex (cnP (d + 1) v flex fs t) = plainS (partS d) fs v flex t := by
        unfold plainS
        refine flatMap_ext fun x hx => ?_
        obtain ⟨f,i⟩ := x
        rw [List.mem_zipIdx_iff_getElem?] at hx
        obtain ⟨hi,he⟩ := List.getElem?_eq_some_iff.1 hx
        simp only at hi he ⊢
        by_cases hc : f.tag < 0 ∧ hasS f v = true
        · rw [if_pos hc,if_pos hc,hat i hi,he,if_pos hc]
          exact hf f (by rw [← he];exact List.getElem_mem _) _
        · rw [if_neg hc,if_neg hc]
      rw [partS_eq,partS_eq]
      unfold partT
      rw [e2,e2,e6]
      cases flex with
      | false => rfl
      | true =>
        simp only [if_true]
        have e1 : unknownS fs (fitU fs t.u) = fitU fs t.u := unknownS_id (fitU_fit fs t.u)
        have e3 : (fitU fs t.u).flatMap unkT = (unknownS fs t.u).flatMap unkT := by
          rw [fitU,List.flatMap_map]
          congr 1;funext x
          simp only [unkT];rw [wholeS_id (wholeS_len x.2)]
        have e4 : (fitU fs t.u).length = (unknownS fs t.u).length := by simp [fitU]
        rw [hu,if_pos rfl,e1,e3,e4]
    · refine ⟨?_,?_⟩
      · have : ∀ (l : List Fld) (i : Nat),i + l.length = fs.length → (∀ k (hk : k < l.length) (hk2 : i + k < fs.length),l[k] = fs[i + k]) → FitWL (FitW v d) v (cnP (d + 1) v flex fs t) l i := by
          intro l
          induction l with
          | nil => intro i _ _;trivial
          | cons f l ihl =>
            intro i hi hl
            simp only [List.length_cons] at hi
            have e := hl 0 (by simp) (by omega)
            simp only [List.getElem_cons_zero,Nat.add_zero] at e
            refine ⟨fun hh => ?_,ihl (i + 1) (by omega) fun k hk hk2 => ?_⟩
            · have hm : f ∈ fs := by rw [e];exact List.getElem_mem _
              rw [hat i (by omega),← e,if_pos ⟨htag f hm,hh⟩]
              exact hfit f hm _
            · have := hl (k + 1) (by simpa using hk) (by omega)
              simp only [List.getElem_cons_succ] at this
              rw [this];congr 1;omega
        exact this fs 0 (by omega) fun k hk hk2 => by simp
      · rw [hu]
        split
        · exact fitU_fit _ _
        · exact ⟨by simp,fun x h => (by cases h),List.Pairwise.nil⟩
  intro d
  induction d with
  | zero =>
    intro fs t h
    have hnil : fs = [] := by simpa [okR] using h
    subst hnil
    exact key 0 [] t (fun _ h => by cases h) (fun _ h => by cases h) (fun _ h => by cases h)
  | succ d ih =>
    intro fs t h
    refine key (d + 1) fs t (fun f hf => (okR_el h hf).1) (fun f hf x => ?_) (fun f hf x => ?_)
    · obtain ⟨g1,g2,g3,g4,g5,g6⟩ := okR_el h hf
      exact fieldS_cn f x g2 g3 (fun y => (ih f.sub y g5).1) fun y => cnP_null _ _ _ _ _
    · obtain ⟨g1,g2,g3,g4,g5,g6⟩ := okR_el h hf
      exact fit_cn f x g2 (fun y => (ih f.sub y g5).2) (FitW_none v flex true d f.sub g5) fun y => cnP_null _ _ _ _ _

section
variable {P : List Fld → Tree → Prop} {V : Int} {f : Fld} {t : Tree}
theorem FitWF.listL (h : FitWF P V f t) (hk : f.kind = 11) {L : List Tree} (hL : L = if nullS f V t = true then [] else t.l) : L.length ≤ 32767 ∧ ∀ x ∈ L,Fit1 P f.of f.sub x := by
  subst hL
  split
  · exact ⟨by simp,fun x hx => by cases hx⟩
  · exact h.list hk
theorem RepF_listN {R : List Fld → Rel Tree} {S : List Fld → Nat} {ok : Blocks} {w : World} {c : List Value} (hg : FitWF P V f t) (h : f.kind = 11) (hn : 0 ≤ f.null) (hr : RepF R S f ok w t c) :
    ∃ v L,c = [v] ∧ L = (if nullS f V t = true then [] else t.l) ∧ SlR ok w (sz1 S f.of f.sub) (Rep1 R f.of f.sub ok w) v L ∧ ∀ a n k,v = .slice a n k → a.isNone = nullS f V t := by
  unfold RepF at hr
  rw [if_neg (by omega),if_pos h] at hr
  obtain ⟨v,rfl,hr⟩ := hr
  rw [hg.isnull hn] at hr
  refine ⟨v,_,rfl,rfl,?_⟩
  by_cases ht : nullS f V t = true
  · rw [if_pos ht] at hr ⊢
    subst hr
    refine ⟨⟨[],⟨none,0,rfl,Nat.le_refl _,by simp,.inl rfl⟩,rfl,fun i h => by simp at h⟩,fun a n k e => ?_⟩
    cases e;rw [ht];rfl
  · rw [if_neg ht] at hr ⊢
    refine ⟨hr.1,fun a n k e => ?_⟩
    obtain ⟨a',n',k',e'⟩ := hr.2
    rw [e'] at e;cases e
    cases hb : nullS f V t with
    | true => exact absurd hb ht
    | false => rfl
variable {pt : List Fld → Int → Bool → Tree → List UInt8} {flex : Bool}
theorem fieldS_listN (hg : FitWF P V f t) (hk : f.kind = 11) {L : List Tree} (hL : L = if nullS f V t = true then [] else t.l) {g : Tree → List UInt8} (hx : ∀ x ∈ L,valueS pt f.of f.sub false V flex x = g x) : fieldS pt f V flex t = countedS flex (nullS f V t) L.length 4 ++ L.flatMap g := by
  unfold fieldS
  rw [if_pos hk,thingsS_id (hg.list hk).1,← hL,flatMap_ext hx]
end
end Ms

namespace Ms
open Go.World renaming size_alloc → qI
open Ms renaming size_wr → qJ,size_drew → qK,not_noB → qL
open W renaming seqR → qA,seq → qB,regR → qC,condK → qD,block → qE,skip → qF,ret → qG,exit → qH
open Nat renaming reduceEqDiff → n0,reduceAdd → n1,reduceMul → n2,reduceSub → n3,reduceLT → n4,reduceLeDiff → n5
open Int renaming reduceEq → i0,reduceLT → i1,reduceLE → i2,reduceNeg → i3,reduceAdd → i4,reduceSub → i5,reduceMul → i6,reduceToNat → i7
set_option maxRecDepth 4000
open Go Go.Proofs
attribute [local congr] W_congr WPsq_congr WPp_congr optK_congr addrK_congr intK_congr boolK_congr sliceK_congr tupleK_congr funcK_congr Fn_congr rawK_congr takeK_congr stepK_congr convK_congr aggK_congr

theorem AppendCompactNullableArrayLen_fn {B : Nat} (v : Value) (s : List UInt8) (w : World) (ho : OwnBy 5 B w v s) (hB : B ≤ w.heap.size) (n : Nat) (hn : n ≤ 32767) (null : Bool) (hl : s.length ≤ 2 ^ 44) :
    Fn Tryz.prog 40 #[v,.int .i64 n,.bool null] w fun r w' => AppR 5 B w v s (countedS true null n 4) r w' := by
  obtain ⟨a,c,rfl,hc⟩ := ho.len
  refine fn_of_W Tryz.func40 rfl Tryz.results40 Tryz.ntmps40 rfl ?_
  have ew : IntKind.u32.wrap (n : Int) = n := u32_wrap (by omega)
  have ew2 : IntKind.u32.wrap (1 + (n : Int)) = ((n + 1 : Nat) : Int) := by rw [u32_wrap (by omega)];omega
  cases null with
  | true =>
    rw [counted_none,if_pos rfl,← show uvarS 0 = [0] from by rw [uvarS_1 (by omega)];rfl]
    repeat ((first | refine qA rfl ?_|apply qB|refine qC rfl ?_|apply qD|apply qE|apply qF|apply qG|apply qH);try simp (disch:=(first|omega|(simp only [qI,qJ,qK]<;>omega)|exact qL _)) only [go_sem,↓reduceIte,n0,reduceCtorEq,n1,n2,n3,n4,n5,i0,i1,i2,i3,i4,i5,i6,i7,ew,ew2])
    refine (AppendUvarint_fn _ s w ho hB 0 (by omega) (by omega)).mono ?_
    rintro r w1 h1
    repeat ((first | refine qA rfl ?_|apply qB|refine qC rfl ?_|apply qD|apply qE|apply qF|apply qG|apply qH);try simp (disch:=(first|omega|(simp only [qI,qJ,qK]<;>omega)|exact qL _)) only [go_sem,↓reduceIte,n0,reduceCtorEq,n1,n2,n3,n4,n5,i0,i1,i2,i3,i4,i5,i6,i7])
    exact h1
  | false =>
    rw [counted_some,if_pos rfl]
    repeat ((first | refine qA rfl ?_|apply qB|refine qC rfl ?_|apply qD|apply qE|apply qF|apply qG|apply qH);try simp (disch:=(first|omega|(simp only [qI,qJ,qK]<;>omega)|exact qL _)) only [go_sem,↓reduceIte,n0,reduceCtorEq,n1,n2,n3,n4,n5,i0,i1,i2,i3,i4,i5,i6,i7,ew,ew2])
    refine (AppendUvarint_fn _ s w ho hB (n + 1) (by omega) (by omega)).mono ?_
    rintro r w1 h1
    repeat ((first | refine qA rfl ?_|apply qB|refine qC rfl ?_|apply qD|apply qE|apply qF|apply qG|apply qH);try simp (disch:=(first|omega|(simp only [qI,qJ,qK]<;>omega)|exact qL _)) only [go_sem,↓reduceIte,n0,reduceCtorEq,n1,n2,n3,n4,n5,i0,i1,i2,i3,i4,i5,i6,i7])
    exact h1

end Ms

namespace Ms
open Go

theorem FitWF.part {P : List Fld → Tree → Prop} {V : Int} {f : Fld} {t : Tree} (h : FitWF P V f t) (hk : f.kind = 10) : P f.sub t := by
  have := h.2
  rw [if_neg (by omega)] at this
  exact this.2 hk
theorem fieldS_opt {pt : List Fld → Int → Bool → Tree → List UInt8} {f : Fld} {v : Int} {flex : Bool} {t : Tree} (hk : f.kind = 10) (hn : 0 ≤ f.null) : fieldS pt f v flex t = if nullS f v t = true then fixedS (-1) 1 else fixedS 1 1 ++ pt f.sub v flex t := by
  unfold fieldS
  rw [if_neg (by omega),if_pos ⟨hk,hn⟩]
end Ms

