/- A part of the proof: see the last text. -/
import Derived.JoinedOf
import Derived.Test.YtfeaoncgnhhjbaaGreatDoorCards
import Derived.Test.YtfeaoncgnhhjbaaGreatDoorTie
import Derived.JoinedCond
import Derived.Test.YtfeaoncgnhhjbaaGreatDoorC00
import Derived.Test.YtfeaoncgnhhjbaaGreatDoorC02
set_option linter.unusedSimpArgs false
set_option linter.unusedVariables false
namespace Ms
open Go

inductive Sized : Nat → Tree → Prop
  | mk {N : Nat} {n : Int} {s : List UInt8} {null : Bool} {l : List Tree} {u : List TagD} (ns : List Nat) (hl : ns.length = l.length) (he : ∀ i (h1 : i < l.length) (h2 : i < ns.length),Sized ns[i] l[i])
      (hk : ∀ x ∈ u,x.1 < 4294967296) (hN : 1 + s.length + ns.sum + (u.map fun x => x.2.length + 1).sum ≤ N) : Sized N (.mk n s null l u)
theorem Sized.zero : Sized 1 .zero := .mk [] rfl (fun i h => by simp at h) (fun x h => by simp at h) (by simp)
theorem Sized.mono {N M : Nat} {t : Tree} (h : Sized N t) (hm : N ≤ M) : Sized M t := by
  cases h with
  | mk ns hl he hk hN => exact .mk ns hl he hk (by omega)
theorem Sized.pos {N : Nat} {t : Tree} (h : Sized N t) : 1 ≤ N := by
  cases h with
  | mk ns hl he hk hN => omega
theorem Sized.s {N : Nat} {t : Tree} (h : Sized N t) : t.s.length ≤ N := by
  cases h with
  | mk ns hl he hk hN => simp only [Tree.s];omega
theorem sum_get_le {ns : List Nat} {i : Nat} (h : i < ns.length) : ns[i] ≤ ns.sum := by
  induction ns generalizing i with
  | nil => simp at h
  | cons a ns ih =>
    cases i with
    | zero => simp
    | succ i =>
      have := ih (i := i) (by simpa using h)
      simp only [List.getElem_cons_succ,List.sum_cons];omega
theorem Sized.at {N : Nat} {t : Tree} (h : Sized N t) (i : Nat) : Sized N (t.at i) := by
  have hp := h.pos
  by_cases hi : i < t.l.length
  · have e : t.at i = t.l[i] := by simp [Tree.at,hi]
    rw [e]
    cases h with
    | mk ns hl he hk hN =>
      simp only [Tree.l] at hi ⊢
      have := sum_get_le (ns := ns) (i := i) (by omega)
      exact (he i hi (by omega)).mono (by omega)
  · have e : t.at i = .zero := by simp [Tree.at,hi]
    rw [e];exact Sized.zero.mono hp

theorem ite_len {α : Type} (b : Bool) (l : List α) : (if b = true then [] else l).length ≤ l.length := by
  cases b <;> simp
def cst : Nat → List Fld → Nat
  | 0,_ => 0
  | d + 1,fs => (fs.map fun f => 2 * cst d f.sub + 40).sum + 60

theorem countedS_le (flex null : Bool) (n k : Nat) (hk : k ≤ 8) (hn : n < 4611686018427387904) : (countedS flex null n k).length ≤ 10 := by
  unfold countedS
  split
  · simp
  · split
    · exact uvarS_len 9 (n + 1) (by omega)
    · split <;> rw [fixedS_len] <;> omega
section
variable {pt : List Fld → Int → Bool → Tree → List UInt8} {v : Int} {flex : Bool} {sub : List Fld} {C : Nat} (hp : ∀ N x,Sized N x → (pt sub v flex x).length ≤ C * (N + 1))
include hp
theorem valueS_bound (kind : Int) (null : Bool) {N : Nat} {t : Tree} (h : Sized N t) : (valueS pt kind sub null v flex t).length ≤ (C + 16) * (N + 1) := by
  have hs := h.s
  have hw : (wholeS t.s).length ≤ N := by simp only [wholeS,List.length_take];omega
  have hw2 := wholeS_len t.s
  have e : (C + 16) * (N + 1) = C * (N + 1) + (16 * N + 16) := by rw [Nat.add_mul,Nat.mul_add 16]
  rw [e]
  have hp' := hp N t h
  generalize C * (N + 1) = A at *
  unfold valueS
  have hi := ite_len null (wholeS t.s)
  split
  · simp only [List.length_cons,List.length_nil];omega
  · split
    · simp only [List.length_append,List.length_take,List.length_replicate];omega
    · split
      · rw [List.length_append]
        have := countedS_le flex null (if null = true then [] else wholeS t.s).length 2 (by omega) (by omega)
        omega
      · split
        · rw [List.length_append]
          have := countedS_le flex null (if null = true then [] else wholeS t.s).length 4 (by omega) (by omega)
          omega
        · split
          · omega
          · rw [fixedS_len];have := widthS_le kind;omega
theorem values_bound (kind : Int) : ∀ (ns : List Nat) (l : List Tree),ns.length = l.length → (∀ i (h1 : i < l.length) (h2 : i < ns.length),Sized ns[i] l[i]) → (l.flatMap fun x => valueS pt kind sub false v flex x).length ≤ 2 * (C + 16) * ns.sum
  | [],[],_,_ => by simp
  | [],_ :: _,h,_ => by simp at h
  | _ :: _,[],h,_ => by simp at h
  | n :: ns,x :: l,h,he => by
    have h0 := he 0 (by simp) (by simp)
    simp only [List.getElem_cons_zero] at h0
    have h1 := valueS_bound hp kind false h0
    have h2 := values_bound kind ns l (by simpa using h) fun i g1 g2 => by
      have := he (i + 1) (by simpa using g1) (by simpa using g2)
      simpa using this
    have hpos := h0.pos
    rw [List.flatMap_cons,List.length_append,List.sum_cons,Nat.mul_add]
    have : (C + 16) * (n + 1) ≤ 2 * (C + 16) * n := by
      rw [Nat.mul_comm 2,Nat.mul_assoc]
      exact Nat.mul_le_mul_left _ (by omega)
    omega
omit hp in
theorem take_sized {N : Nat} {t : Tree} (h : Sized N t) (k : Nat) : ∃ ns : List Nat,ns.length = (t.l.take k).length ∧ (∀ i (h1 : i < (t.l.take k).length) (h2 : i < ns.length),Sized ns[i] (t.l.take k)[i]) ∧ ns.sum ≤ N := by
  cases h with
  | mk ns hl he hk hN =>
    refine ⟨ns.take k,by simp [Tree.l,hl],fun i h1 h2 => ?_,?_⟩
    · simp only [List.length_take,Tree.l] at h1 h2
      simp only [List.getElem_take,Tree.l]
      exact he i (by omega) (by omega)
    · have : (ns.take k).sum ≤ ns.sum := by
        have := congrArg List.sum (List.take_append_drop k ns)
        rw [List.sum_append] at this;omega
      omega
theorem fieldS_bound (f : Fld) (hf : f.sub = sub) {N : Nat} {t : Tree} (h : Sized N t) : (fieldS pt f v flex t).length ≤ (2 * C + 40) * (N + 1) := by
  subst hf
  have e : (2 * C + 40) * (N + 1) = 2 * (C * (N + 1)) + (40 * N + 40) := by rw [Nat.add_mul,Nat.mul_assoc,Nat.mul_add 40]
  have hv := fun k null => valueS_bound hp k null h
  have e2 : (C + 16) * (N + 1) = C * (N + 1) + (16 * N + 16) := by rw [Nat.add_mul,Nat.mul_add 16]
  rw [e2] at hv
  rw [e]
  unfold fieldS
  split
  · rw [List.length_append]
    have hth : (thingsS t.l).length ≤ 32767 := by simp only [thingsS,List.length_take];omega
    have hi := ite_len (nullS f v t) (thingsS t.l)
    have h1 := countedS_le flex (nullS f v t) (if nullS f v t = true then [] else thingsS t.l).length 4 (by omega) (by omega)
    have h2 : ((if nullS f v t = true then [] else thingsS t.l).flatMap fun x => valueS pt f.of f.sub false v flex x).length ≤ 2 * (C + 16) * N := by
      split
      · simp
      · obtain ⟨ns,g1,g2,g3⟩ := take_sized h 32767
        exact Nat.le_trans (values_bound hp f.of ns (thingsS t.l) g1 g2) (Nat.mul_le_mul_left _ g3)
    have e3 : 2 * (C + 16) * N = 2 * (C * N) + 32 * N := by rw [Nat.mul_assoc,Nat.add_mul,Nat.mul_add,← Nat.mul_assoc 2 16]
    have e4 : C * (N + 1) = C * N + C := by rw [Nat.mul_add,Nat.mul_one]
    omega
  · split
    · split
      · rw [fixedS_len];omega
      · rw [List.length_append,fixedS_len];have := hp N t h;omega
    · have := hv f.kind (nullS f v t);omega
end
theorem tags_bound (fs : List Fld) (u : List TagD) (hk : ∀ x ∈ u,x.1 < 4294967296) : ((unknownS fs u).flatMap unkT).length ≤ 20 * (u.map fun x => x.2.length + 1).sum := by
  have h1 : ∀ (l : List TagD),(∀ x ∈ l,x.1 < 4294967296) → (l.flatMap unkT).length ≤ 20 * (l.map fun x => x.2.length + 1).sum := by
    intro l
    induction l with
    | nil => intro _;simp
    | cons x l ih =>
      intro h
      have := ih fun y hy => h y (by simp [hy])
      have h1 := uvarS_len 9 x.1 (by have := h x (by simp);omega)
      have hw : (wholeS x.2).length ≤ x.2.length := by simp only [wholeS,List.length_take];omega
      have hw2 := wholeS_len x.2
      have h2 := uvarS_len 9 (wholeS x.2).length (by omega)
      simp only [List.flatMap_cons,List.length_append,List.map_cons,List.sum_cons,unkT,oneTag] at this ⊢
      omega
  have h2 : ∀ (l out : List TagD),((l.foldl (insTag (knownS fs)) out).map fun x => x.2.length + 1).sum ≤ (out.map fun x => x.2.length + 1).sum + (l.map fun x => x.2.length + 1).sum := by
    intro l
    induction l with
    | nil => intro out;simp
    | cons t l ih =>
      intro out
      have h3 := ih (insTag (knownS fs) out t)
      have h4 : ((insTag (knownS fs) out t).map fun x => x.2.length + 1).sum ≤ (out.map fun x => x.2.length + 1).sum + (t.2.length + 1) := by
        unfold insTag
        split
        · omega
        · have := congrArg (fun l => (l.map fun x : TagD => x.2.length + 1).sum) (List.takeWhile_append_dropWhile (p := fun x : TagD => decide (x.1 < t.1)) (l := out))
          simp only [List.map_append,List.sum_append,List.map_cons,List.sum_cons] at this ⊢
          omega
      simp only [List.foldl_cons,List.map_cons,List.sum_cons]
      omega
  have h3 := h2 (u.take 32767) []
  have h4 : ((u.take 32767).map fun x => x.2.length + 1).sum ≤ (u.map fun x => x.2.length + 1).sum := by
    have := congrArg (fun l => (l.map fun x : TagD => x.2.length + 1).sum) (List.take_append_drop 32767 u)
    simp only [List.map_append,List.sum_append] at this
    omega
  have h5 := h1 (unknownS fs u) fun x hx => hk x ((unknownS_spec fs u).2 x hx).1
  have h6 : (unknownS fs u) = (u.take 32767).foldl (insTag (knownS fs)) [] := rfl
  rw [← h6] at h3
  simp only [List.map_nil,List.sum_nil] at h3
  omega
def okBd : Nat → List Fld → Bool
  | 0,fs => fs.isEmpty
  | d + 1,fs => fs.all fun f => decide (f.tag < 0) && okBd d f.sub
theorem okBd_el {d : Nat} {fs : List Fld} (h : okBd d fs = true) {g : Fld} (hg : g ∈ fs) : ∃ e,d = e + 1 ∧ g.tag < 0 ∧ okBd e g.sub = true := by
  cases d with
  | zero => simp only [okBd,List.isEmpty_iff] at h;subst h;simp at hg
  | succ d =>
    simp only [okBd,Bool.and_eq_true,List.all_eq_true,decide_eq_true_eq] at h
    exact ⟨d,rfl,(h g hg).1,(h g hg).2⟩
theorem partS_boundB (v : Int) (flex : Bool) (d : Nat) : ∀ fs N t,okBd d fs = true → Sized N t → (partS (d + 1) fs v flex t).length ≤ cst (d + 1) fs * (N + 1) := by
  induction d with
  | zero =>
    intro fs N t h hs
    have hnil : fs = [] := by simpa [okBd] using h
    subst hnil
    have hu : (t.u.map fun x => x.2.length + 1).sum ≤ N ∧ ∀ x ∈ t.u,x.1 < 4294967296 := by
      cases hs with
      | mk ns hl he hk hN => exact ⟨by simp only [Tree.u];omega,hk⟩
    have h1 := tags_bound [] t.u hu.2
    have h2 := unknownS_len' [] t.u
    have h3 := uvarS_len 9 ((tagsS (partS 0) 1 [] v flex t).length + (unknownS [] t.u).length) (by
      have : tagsS (partS 0) 1 [] v flex t = [] := rfl
      rw [this];simp only [List.length_nil];omega)
    rw [partS_eq]
    unfold partT
    have e1 : plainS (partS 0) [] v flex t = [] := rfl
    have e2 : tagsS (partS 0) 1 [] v flex t = [] := rfl
    have e3 : cst 1 [] = 60 := rfl
    rw [e1,e3]
    split
    · simp only [e2,List.length_append,List.length_nil,List.flatMap_nil] at h3 ⊢;omega
    · simp
  | succ d ih =>
    intro fs N t h hs
    have htag : ∀ f ∈ fs,f.tag < 0 := fun f hf => by obtain ⟨_,_,h1,_⟩ := okBd_el h hf;exact h1
    have hk := knownS_none htag
    have hu : (t.u.map fun x => x.2.length + 1).sum ≤ N ∧ ∀ x ∈ t.u,x.1 < 4294967296 := by
      cases hs with
      | mk ns hl he hk hN => exact ⟨by simp only [Tree.u];omega,hk⟩
    have h1 := tags_bound fs t.u hu.2
    have h2 := unknownS_len' fs t.u
    have e2 : tagsS (partS (d + 1)) (d + 2) fs v flex t = [] := by rw [tagsS,hk];rfl
    have h3 := uvarS_len 9 (unknownS fs t.u).length (by omega)
    have hplain : ∀ (l : List Fld) (i : Nat),(∀ f ∈ l,f ∈ fs) → ((l.zipIdx i).flatMap (plainF (partS (d + 1)) v flex t)).length ≤ (l.map fun f => 2 * cst (d + 1) f.sub + 40).sum * (N + 1) := by
      intro l
      induction l with
      | nil => intro i _;simp
      | cons f l ihl =>
        intro i hm
        have g1 := ihl (i + 1) fun g hg => hm g (by simp [hg])
        obtain ⟨e',he',_,hsub⟩ := okBd_el h (hm f (by simp))
        cases he'
        have g2 : (plainF (partS (d + 1)) v flex t (f,i)).length ≤ (2 * cst (d + 1) f.sub + 40) * (N + 1) := by
          unfold plainF
          split
          · exact fieldS_bound (C := cst (d + 1) f.sub) (fun M x hx => ih f.sub M x hsub hx) f rfl (hs.at i)
          · simp
        simp only [List.zipIdx_cons,List.flatMap_cons,List.length_append,List.map_cons,List.sum_cons,Nat.add_mul] at g1 g2 ⊢
        omega
    have g := hplain fs 0 fun f hf => hf
    have e4 : plainS (partS (d + 1)) fs v flex t = (fs.zipIdx 0).flatMap (plainF (partS (d + 1)) v flex t) := rfl
    have e5 : cst (d + 2) fs = (fs.map fun f => 2 * cst (d + 1) f.sub + 40).sum + 60 := rfl
    rw [partS_eq]
    unfold partT
    rw [e5,Nat.add_mul,e4,e2]
    split
    · simp only [List.length_append,List.length_nil,List.flatMap_nil,Nat.zero_add];omega
    · omega

structure Bulk {H : Type} (bk : DataW H → Nat) (ba : List (DataW H) → Nat) : Prop where
  pos : ∀ d,1 ≤ bk d
  slice : ∀ e s,bk (.slice e s) = ba e + ba s + 1
  agg : ∀ p,bk (.agg p) = ba p + 1
  nil : ba [] = 0
  cons : ∀ d r,ba (d :: r) = bk d + ba r
theorem Bulk.sum {H : Type} {bk : DataW H → Nat} {ba : List (DataW H) → Nat} (h : Bulk bk ba) : ∀ l,ba l = (l.map bk).sum
  | [] => h.nil
  | d :: r => by rw [h.cons,List.map_cons,List.sum_cons,h.sum r]
theorem Bulk.len {H : Type} {bk : DataW H → Nat} {ba : List (DataW H) → Nat} (h : Bulk bk ba) : ∀ l,l.length ≤ ba l
  | [] => by simp
  | d :: r => by have := h.len r;have := h.pos d;rw [h.cons,List.length_cons];omega
theorem Bulk.mem {H : Type} {bk : DataW H → Nat} {ba : List (DataW H) → Nat} (h : Bulk bk ba) {d : DataW H} : ∀ {l},d ∈ l → bk d ≤ ba l
  | [],hm => by cases hm
  | x :: r,hm => by
    rw [h.cons]
    rcases List.mem_cons.1 hm with rfl | hm
    · omega
    · have := h.mem hm;omega
theorem sum_le : ∀ {xs ys : List Nat},xs.length = ys.length → (∀ i (h1 : i < xs.length) (h2 : i < ys.length),xs[i] ≤ ys[i]) → xs.sum ≤ ys.sum
  | [],[],_,_ => Nat.le_refl _
  | x :: xs,y :: ys,h,hp => by
    have h0 := hp 0 (by simp) (by simp)
    have := sum_le (xs := xs) (ys := ys) (by simpa using h) fun i h1 h2 => by
      have := hp (i + 1) (by simpa using h1) (by simpa using h2)
      simpa using this
    simp only [List.getElem_cons_zero] at h0
    simp only [List.sum_cons];omega
  | [],_ :: _,h,_ => by simp at h
  | _ :: _,[],h,_ => by simp at h
section
variable {H : Type} {enc : TypeId × Value → H} {P : Program} {w : World} {base : Nat} {spare : Nat → Bool} {held : Bool}
variable {bk : DataW H → Nat} {ba : List (DataW H) → Nat} (hbk : Bulk bk ba)
include hbk
theorem open_bytesB {y S : TypeId} (hy : P.underlying y = some (.int .u8)) (cy : P.cellsOf y = 1) (b_y : P.bytesOf y = 1) (hS : P.underlying S = some (.slice y)) {fuel : Nat} {cs : List Value} {x : DataW H × List MemPlace} (h : DataW.trod enc P w base spare held fuel S cs = some x) (hf : Fits P S x.1) :
    ∃ v s,cs = [v] ∧ BytesV AnyB w v s ∧ s.length ≤ 140737488351232 ∧ s.length + 1 ≤ bk x.1 := by
  rcases DataW.trod_slice hS h with ⟨rfl,rfl⟩ | ⟨a,len,cap,elems,rest,n,rfl,rfl,rfl,h1,h2,h3,h4,h5,h6,h7⟩
  · exact ⟨_,[],rfl,⟨none,0,rfl,Nat.le_refl _,by simp,.inl rfl⟩,by simp,by have := hbk.pos DataW.nil;simpa using this⟩
  · have hfs := fits_slice hS hf
    simp only [List.length_map,b_y,reachBytes] at hfs
    obtain ⟨css,hc1,hc2,hc3⟩ := sl_elems (w := w) (base := base) (size := 1) (by omega) (a := a) (len := len) (cap := cap) h2 (R := fun i cs => ∃ b,ByteC b cs) (fun i hi => by
      have := h5 i hi
      rw [cy,List.getElem?_eq_getElem (by omega)] at this
      obtain ⟨cs,hcs,ht⟩ := Option.bind_eq_some_iff.1 this
      obtain ⟨n',rfl,hw⟩ := trod_int' hy ht
      refine ⟨_,hcs,UInt8.ofNat n'.toNat,?_⟩
      simp only [Lit.wf,Bool.and_eq_true,decide_eq_true_eq,IntKind.min,IntKind.max,IntKind.signed,IntKind.bits] at hw
      unfold ByteC byteV
      congr 2
      simp only [UInt8.toNat_ofNat']
      simp at hw
      omega)
    obtain ⟨s,hs1,hs2⟩ := all_choice (n := css.length) (R := fun i b => ∀ hi : i < css.length,ByteC b css[i]) (fun i hi => by obtain ⟨b,hb⟩ := hc3 i hi;exact ⟨b,fun _ => hb⟩)
    refine ⟨_,s,rfl,?_,by omega,by
      rw [hbk.slice]
      have := hbk.len (elems.map (·.1))
      rw [List.length_map] at this
      omega⟩
    have : css = s.map fun b => [byteV b] := by
      apply List.ext_getElem
      · simp [hs1]
      · intro i g1 g2
        simp only [List.getElem_map]
        exact hs2 i (by omega) g1
    rw [this] at hc1
    exact hc1

variable {y B N K S G U T L : TypeId}
theorem open_tagB (F : TreeTy P y B N K S G U T L) {fuel : Nat} {cs : List Value} {x : DataW H × List MemPlace} (h : DataW.trod enc P w base spare held fuel G cs = some x) (hf : Fits P G x.1) :
    ∃ u,TagC AnyB w u cs ∧ u.2.length ≤ 140737488351232 ∧ u.2.length + 1 ≤ bk x.1 := by
  obtain ⟨fs,hfs,hl⟩ := F.uG
  obtain ⟨xs,n,rfl,rfl,h1,h2,h3⟩ := DataW.trod_struct hfs h
  have hff := fits_struct hfs hf
  obtain ⟨f0,g0,e0,o0⟩ := struct_get hl 0 K 0 rfl
  obtain ⟨f1,g1,e1,o1⟩ := struct_get hl 1 S 1 rfl
  have hsz : xs.length = 2 := by rw [h2];simpa using congrArg List.length hl
  have k0 := h3 0 f0 g0
  have k1 := h3 1 f1 g1
  rw [e0,o0,F.cK,List.getElem?_eq_getElem (by omega)] at k0
  rw [e1,o1,F.cS,List.getElem?_eq_getElem (by omega)] at k1
  obtain ⟨m,hm,hw⟩ := trod_int' F.uK k0
  obtain ⟨v,s,hv,hb,hsl,hsb⟩ := open_bytesB hbk F.uy F.cy F.b_y F.uS k1 (by
    have := hff 1 f1 (xs[1].1) g1 (by simp [List.getElem?_eq_getElem (show 1 < xs.length by omega)])
    rw [e1] at this;exact this)
  rw [F.cG] at h1
  obtain ⟨c0,c1,rfl⟩ : ∃ a b,cs = [a,b] := by
    match cs,h1 with
    | [a,b],_ => exact ⟨_,_,rfl⟩
  · simp only [List.drop_zero,List.take_succ_cons,List.take_zero,List.drop_succ_cons,List.cons.injEq,and_true] at hm hv
    subst hm;subst hv
    simp only [Lit.wf,Bool.and_eq_true,decide_eq_true_eq,IntKind.min,IntKind.max,IntKind.signed,IntKind.bits] at hw
    simp at hw
    refine ⟨(m.toNat,s),⟨c1,?_,hb,by simp only;omega⟩,hsl,?_⟩
    · simp only [List.cons.injEq,Value.int.injEq,true_and,and_true]
      omega
    · rw [hbk.agg]
      have h8 := hbk.mem (l := xs.map (·.1)) (List.mem_map.2 ⟨_,List.getElem_mem (show 1 < xs.length by omega),rfl⟩)
      simp only
      omega

theorem open_treeB (F : TreeTy P y B N K S G U T L) : ∀ (fuel : Nat) {cs : List Value} {x : DataW H × List MemPlace},DataW.trod enc P w base spare held fuel T cs = some x → Fits P T x.1 →
    ∃ t,TreeC AnyB w t cs ∧ Small 140737488351232 t ∧ Sized (bk x.1) t := by
  intro fuel
  induction fuel using Nat.strongRecOn with
  | _ fuel ih =>
  intro cs x h hf
  obtain ⟨fs,hfs,hl⟩ := F.uT
  obtain ⟨xs,n,rfl,rfl,h1,h2,h3⟩ := DataW.trod_struct hfs h
  have hff := fits_struct hfs hf
  obtain ⟨f0,g0,e0,o0⟩ := struct_get hl 0 N 0 rfl
  obtain ⟨f1,g1,e1,o1⟩ := struct_get hl 1 S 1 rfl
  obtain ⟨f2,g2,e2,o2⟩ := struct_get hl 2 B 2 rfl
  obtain ⟨f3,g3,e3,o3⟩ := struct_get hl 3 L 3 rfl
  obtain ⟨f4,g4,e4,o4⟩ := struct_get hl 4 U 4 rfl
  have hsz : xs.length = 5 := by rw [h2];simpa using congrArg List.length hl
  have k0 := h3 0 f0 g0
  have k1 := h3 1 f1 g1
  have k2 := h3 2 f2 g2
  have k3 := h3 3 f3 g3
  have k4 := h3 4 f4 g4
  rw [e0,o0,F.cN,List.getElem?_eq_getElem (by omega)] at k0
  rw [e1,o1,F.cS,List.getElem?_eq_getElem (by omega)] at k1
  rw [e2,o2,F.cB,List.getElem?_eq_getElem (by omega)] at k2
  rw [e3,o3,F.cL,List.getElem?_eq_getElem (by omega)] at k3
  rw [e4,o4,F.cU,List.getElem?_eq_getElem (by omega)] at k4
  have fit : ∀ i (hi : i < xs.length) f t,fs[i]? = some f → f.type = t → Fits P t xs[i].1 := fun i hi f t hg he => by
    have := hff i f (xs[i].1) hg (by simp [List.getElem?_eq_getElem hi])
    rw [he] at this;exact this
  obtain ⟨m,hm,hw⟩ := trod_int' F.uN k0
  obtain ⟨v,s,hv,hb,hsl,hsb⟩ := open_bytesB hbk F.uy F.cy F.b_y F.uS k1 (fit 1 (by omega) f1 S g1 e1)
  obtain ⟨bb,hbb⟩ := trod_bool' F.uB k2
  have fL := fit 3 (by omega) f3 L g3 e3
  have fU := fit 4 (by omega) f4 U g4 e4
  have hLx : ∃ vL l,((cs.drop 3).take 1) = [vL] ∧ TreesV AnyB w vL l ∧ l.length ≤ 140737488351232 ∧ (∀ i (hi : i < l.length),Small 140737488351232 l[i]) ∧ ∃ ns : List Nat,ns.length = l.length ∧ (∀ i (h1 : i < l.length) (h2 : i < ns.length),Sized ns[i] l[i]) ∧ ns.sum + 1 ≤ bk xs[3].1 := by
    rcases DataW.trod_slice F.uL k3 with ⟨hc,hx⟩ | ⟨a,len,cap,elems,rest,n',hn',hc,hx,q1,q2,q3,q4,q5,q6,q7⟩
    · exact ⟨_,[],hc,⟨[],⟨none,0,rfl,Nat.le_refl _,by simp,.inl rfl⟩,rfl,fun i h => by simp at h⟩,by simp,fun i h => by simp at h,[],rfl,fun i h => by simp at h,by simpa using hbk.pos _⟩
    · rw [hx] at fL
      have hfs := fits_slice F.uL fL
      simp only [List.length_map,F.bT,reachBytes] at hfs
      obtain ⟨css,hc1,hc2,hc3⟩ := sl_elems (w := w) (base := base) (size := 5) (by omega) (a := a) (len := len) (cap := cap) q2 (R := fun i cs => ∃ t,TreeC AnyB w t cs ∧ Small 140737488351232 t ∧ ∀ hi : i < elems.length,Sized (bk (elems[i]).1) t) (fun i hi => by
        have := q5 i hi
        rw [F.cT,List.getElem?_eq_getElem (by omega)] at this
        obtain ⟨cs',hcs,ht⟩ := Option.bind_eq_some_iff.1 this
        obtain ⟨t,g1,g2,g3⟩ := ih n' (by omega) ht (hfs.2 _ (List.mem_map.2 ⟨_,List.getElem_mem _,rfl⟩))
        exact ⟨_,hcs,t,g1,g2,fun _ => g3⟩)
      obtain ⟨l,hs1,hs2⟩ := all_choice (n := css.length) (R := fun i t => ∀ hi : i < css.length,TreeC AnyB w t css[i] ∧ Small 140737488351232 t ∧ ∀ hi : i < elems.length,Sized (bk (elems[i]).1) t) (fun i hi => by obtain ⟨t,ht⟩ := hc3 i hi;exact ⟨t,fun _ => ht⟩)
      refine ⟨_,l,hc,⟨css,hc1,hs1,fun i g1 g2 => (hs2 i g1 g2).1⟩,by omega,fun i hi => (hs2 i hi (by omega)).2.1,elems.map fun e => bk e.1,by simp only [List.length_map];omega,fun i h1 h2 => ?_,?_⟩
      · simp only [List.getElem_map]
        exact (hs2 i h1 (by omega)).2.2 (by simpa using h2)
      · rw [hx,hbk.slice,hbk.sum,List.map_map]
        exact Nat.succ_le_succ (Nat.le_add_right _ _)
  have hUx : ∃ vU u,((cs.drop 4).take 1) = [vU] ∧ TagsV AnyB w vU u ∧ u.length ≤ 140737488351232 ∧ (∀ x ∈ u,x.2.length ≤ 140737488351232) ∧ (u.map fun x => x.2.length + 1).sum + 1 ≤ bk xs[4].1 := by
    rcases DataW.trod_slice F.uU k4 with ⟨hc,hx⟩ | ⟨a,len,cap,elems,rest,n',hn',hc,hx,q1,q2,q3,q4,q5,q6,q7⟩
    · exact ⟨_,[],hc,⟨[],⟨none,0,rfl,Nat.le_refl _,by simp,.inl rfl⟩,rfl,fun i h => by simp at h⟩,by simp,fun x h => by simp at h,by simpa using hbk.pos _⟩
    · rw [hx] at fU
      have hfs := fits_slice F.uU fU
      simp only [List.length_map,F.bG,reachBytes] at hfs
      obtain ⟨css,hc1,hc2,hc3⟩ := sl_elems (w := w) (base := base) (size := 2) (by omega) (a := a) (len := len) (cap := cap) q2 (R := fun i cs => ∃ t,TagC AnyB w t cs ∧ t.2.length ≤ 140737488351232 ∧ ∀ hi : i < elems.length,t.2.length + 1 ≤ bk (elems[i]).1) (fun i hi => by
        have := q5 i hi
        rw [F.cG,List.getElem?_eq_getElem (by omega)] at this
        obtain ⟨cs',hcs,ht⟩ := Option.bind_eq_some_iff.1 this
        obtain ⟨t,g1,g2,g3⟩ := open_tagB hbk F ht (hfs.2 _ (List.mem_map.2 ⟨_,List.getElem_mem _,rfl⟩))
        exact ⟨_,hcs,t,g1,g2,fun _ => g3⟩)
      obtain ⟨l,hs1,hs2⟩ := all_choice (n := css.length) (R := fun i t => ∀ hi : i < css.length,TagC AnyB w t css[i] ∧ t.2.length ≤ 140737488351232 ∧ ∀ hi : i < elems.length,t.2.length + 1 ≤ bk (elems[i]).1) (fun i hi => by obtain ⟨t,ht⟩ := hc3 i hi;exact ⟨t,fun _ => ht⟩)
      refine ⟨_,l,hc,⟨css,hc1,hs1,fun i g1 g2 => (hs2 i g1 g2).1⟩,by omega,fun x hx => ?_,?_⟩
      · obtain ⟨i,hi,rfl⟩ := List.getElem_of_mem hx
        exact (hs2 i hi (by omega)).2.1
      · have hsum := sum_le (xs := l.map fun x => x.2.length + 1) (ys := elems.map fun e => bk e.1) (by simp only [List.length_map];omega) fun i h1 h2 => by
          simp only [List.getElem_map]
          exact (hs2 i (by simpa using h1) (by simp at h1;omega)).2.2 (by simpa using h2)
        rw [hx,hbk.slice,hbk.sum,List.map_map]
        exact Nat.succ_le_succ (Nat.le_trans hsum (Nat.le_add_right _ _))
  obtain ⟨vL,l,hLc,hLv,hLl,hLe,ns,hns1,hns2,hns3⟩ := hLx
  obtain ⟨vU,u,hUc,hUv,hUl,hUe,hUs⟩ := hUx
  rw [F.cT] at h1
  obtain ⟨c0,c1,c2,c3,c4,rfl⟩ : ∃ a b c d e,cs = [a,b,c,d,e] := by
    match cs,h1 with
    | [a,b,c,d,e],_ => exact ⟨_,_,_,_,_,rfl⟩
  · obtain rfl : c0 = .int .i64 m := by simpa using hm
    obtain rfl : c1 = v := by simpa using hv
    obtain rfl : c2 = .bool bb := by simpa using hbb
    obtain rfl : c3 = vL := by simpa using hLc
    obtain rfl : c4 = vU := by simpa using hUc
    refine ⟨.mk m s bb l u,TreeC.intro (wf_wrap_eq hw) hb hLv hUv,.mk hsl hLl hUl hLe hUe,.mk ns hns1 hns2 (fun x hx => ?_) ?_⟩
    · obtain ⟨css,_,h8,h9⟩ := hUv
      obtain ⟨i,hi,rfl⟩ := List.getElem_of_mem hx
      obtain ⟨_,_,_,h10⟩ := h9 i hi (by omega)
      exact h10
    · rw [hbk.agg]
      obtain ⟨x0,x1,x2,x3,x4,rfl⟩ : ∃ a b c d e,xs = [a,b,c,d,e] := by
        match xs,hsz with
        | [a,b,c,d,e],_ => exact ⟨_,_,_,_,_,rfl⟩
      simp only [List.map_cons,List.map_nil,hbk.cons,hbk.nil]
      simp only [List.getElem_cons_zero,List.getElem_cons_succ] at hsb hns3 hUs
      have := hbk.pos x0.1
      omega
end

theorem words_ne : ∀ a : List Char,wordsSigns a ≠ []
  | [] => by simp [wordsSigns]
  | c :: r => by
    unfold wordsSigns
    split
    · simp
    · simp
    · split <;> simp
theorem words_app : ∀ (a r : List Char),wordsSigns (a ++ ' ' :: r) = wordsSigns a ++ wordsSigns r
  | [],r => by
    rw [List.nil_append]
    conv => lhs;unfold wordsSigns
    simp [wordsSigns]
  | c :: a,r => by
    have ih := words_app a r
    have hn := words_ne a
    by_cases hc : c = ' '
    · subst hc
      have e : ∀ l,wordsSigns (' ' :: l) = [] :: wordsSigns l := fun l => by rw [wordsSigns]
      rw [List.cons_append,e,e,ih];rfl
    · rw [List.cons_append]
      have e : ∀ l,wordsSigns (c :: l) = match wordsSigns l with | w :: ws => (c :: w) :: ws | [] => [[c]] := fun l => by
        conv => lhs;unfold wordsSigns
        split
        · rename_i h;cases h
        · rename_i h;cases h;exact absurd rfl hc
        · rename_i h;cases h;rfl
      rw [e,e,ih]
      cases hw : wordsSigns a with
      | nil => exact absurd hw hn
      | cons w ws => rfl
def cutHead : List (List Char) → Bool
  | [h,s,c] => h == "harness".toList && isSumSigns s && c == "cut".toList
  | _ => false
def Cut (P : Program) : Prop := ∃ W,behindMainWord (wordsSigns P.initOrder.toList) = "cut".toList :: W
theorem cut_of {P : Program} (k : Nat) (hs : P.initOrder.toList = P.initOrder.toList.take k ++ ' ' :: P.initOrder.toList.drop (k + 1)) (hA : cutHead (wordsSigns (P.initOrder.toList.take k)) = true) : Cut P := by
  unfold Cut
  rw [hs,words_app]
  generalize wordsSigns (P.initOrder.toList.take k) = A at hA
  generalize wordsSigns (P.initOrder.toList.drop (k + 1)) = W
  match A,hA with
  | [h,s,c],hA =>
    unfold cutHead at hA
    simp only [Bool.and_eq_true] at hA
    obtain ⟨⟨h1,h2⟩,h3⟩ := hA
    refine ⟨W,?_⟩
    have hc : c = "cut".toList := eq_of_beq h3
    subst hc
    show behindMainWord (h :: s :: ("cut".toList :: W)) = _
    unfold behindMainWord
    simp only [h1,h2,Bool.true_or,Bool.and_self,if_true]
theorem strip_cut (W : List (List Char)) : stripLifts liftWords ("cut".toList :: W) = ([],"cut".toList :: W) := rfl
theorem headLifts_of {P : Program} (h : Cut P) : P.headLifts = [] := by
  obtain ⟨W,h⟩ := h
  unfold Program.headLifts
  rw [h,strip_cut]
  rfl
theorem mayEnter_of {P : Program} (h : Cut P) (h1 : P.laysLater = false) (h2 : P.bearsReflect = false) (h3 : P.doorFits [] = true) : P.mayEnter = true := by
  obtain ⟨W,h⟩ := h
  unfold Program.mayEnter
  rw [h]
  simp only [strip_cut,h1,h2,h3]
  rfl
theorem liftsFinal_of {P : Program} (h : Cut P) : P.liftsFinal = false := by
  have hl := headLifts_of h
  obtain ⟨W,h⟩ := h
  unfold Program.liftsFinal
  rw [h,hl]
  rfl
theorem make_of {P : Program} (h : Cut P) : P.make = some .cut := by
  obtain ⟨W,h⟩ := h
  unfold Program.make
  rw [h]
  rfl
end Ms

namespace Go.Proofs.YtfeaoncgnhhjbaaGreatDoor
theorem isCut : Ms.Cut Tryz.pinned.checked.prog := Ms.cut_of 76 (by kernel_rfl) (by kernel_rfl)
theorem laysLater0 : Tryz.pinned.checked.prog.laysLater = false := by kernel_rfl
theorem bears0 : Tryz.pinned.checked.prog.bearsReflect = false := by kernel_rfl
theorem doors0 : Tryz.pinned.checked.prog.doorFits [] = true := by kernel_rfl
theorem enters0 : Tryz.pinned.checked.prog.mayEnter = true := Ms.mayEnter_of isCut laysLater0 bears0 doors0
theorem lifts0 : Tryz.pinned.checked.prog.liftsFinal = false := Ms.liftsFinal_of isCut
theorem make0 : Tryz.pinned.checked.prog.make = some .cut := Ms.make_of isCut
theorem hears0 : Tryz.pinned.checked.prog.stopsHeard = true := by kernel_rfl
theorem laid0 : laidOutB Tryz.pinned.checked.prog = true := by kernel_rfl
theorem rowed0 : mapsRowed Tryz.pinned.checked.prog = true := by kernel_rfl
end Go.Proofs.YtfeaoncgnhhjbaaGreatDoor

