/- A part of the proof: see the last text. -/
import Derived.Laws.IdiomStrings
import Derived.Test.YtbbhfngjfihndabDoorC03
import Derived.Test.YtbbhfngjfihndabDoorC05
import Derived.Test.YtbbhfngjfihndabDoorC06
set_option linter.unusedSimpArgs false
set_option linter.unusedVariables false
namespace Ms
open Go

def exitRQ (i : Nat) (J Qr : Regs → World → Prop) : Exit → Regs → World → Prop := fun e ρ w => (e = .exit i ∧ J ρ w) ∨ (e = .ret ∧ Qr ρ w)
theorem exitRQ_exit (i : Nat) (J Qr : Regs → World → Prop) (ρ : Regs) (w : World) : exitRQ i J Qr (.exit i) ρ w = J ρ w := by simp [exitRQ]
theorem exitRQ_ret (i : Nat) (J Qr : Regs → World → Prop) (ρ : Regs) (w : World) : exitRQ i J Qr .ret ρ w = Qr ρ w := by simp [exitRQ]
theorem W.exitRJ {P : Program} {n : Nat} {c : Code} {Q : Exit → Regs → World → Prop} {ρ : Regs} {w : World} (i : Nat) (J : Regs → World → Prop) (h : W P n c (exitRQ i J (Q .ret)) ρ w) (hq : ∀ ρ w,J ρ w → Q (.exit i) ρ w) : W P n c Q ρ w :=
  h.mono fun e ρ w he => by
    rcases he with ⟨rfl,hj⟩ | ⟨rfl,hj⟩
    · exact hq ρ w hj
    · exact hj

def ReadQ (T : TypeId) (ok : Blocks) (ver : Int) (d : Nat) (fs : List Fld) (vb : Nat) (w : World) (fin : Tree × St) (ev : Value) (r : Value) (w' : World) : Prop :=
  (fin.2 = none → r = ev) ∧ (fin.2 ≠ none → r = .nilIface ∧ ∃ cells,blk w' vb = some ((.int .i16 ver :: cells).toArray,T,(0,0)) ∧ RepS true d fs (okN ok w.heap.size) w' fin.1 cells) ∧ Upd (fun b => b = vb) w w'
theorem ReadQ.bad {T : TypeId} {ok : Blocks} {ver : Int} {d : Nat} {fs : List Fld} {vb : Nat} {w : World} {fin : Tree × St} {ev : Value} {w' : World} (h : fin.2 = none) (hu : Upd (fun b => b = vb) w w') : ReadQ T ok ver d fs vb w fin ev ev w' :=
  ⟨fun _ => rfl,fun h' => absurd h h',hu⟩

def setL (cs : List Value) (o : Nat) : List Value → List Value
  | [] => cs
  | v :: vs => setL (cs.set o v) (o + 1) vs
theorem el_sets {A B : List Value} : ∀ (vs cs : List Value) (o : Nat),o + vs.length ≤ cs.length → wrArr ((A ++ (cs ++ B)).toArray) (A.length + o) vs = (A ++ (setL cs o vs ++ B)).toArray
  | [],cs,o,_ => rfl
  | v :: vs,cs,o,h => by
    simp only [List.length_cons] at h
    rw [wrArr,el_set (cs := cs) (by omega),Nat.add_assoc,el_sets vs (cs.set o v) (o + 1) (by rw [List.length_set];omega),setL]
theorem el_blk {w : World} {R k o : Nat} {A cs B vs : List Value} {E : TypeId} {fr : Nat × Nat} (hb : blk w R = some ((A ++ (cs ++ B)).toArray,E,fr)) (hA : A.length = k) (h : o + vs.length ≤ cs.length) : blk (wr w R (k + o) vs) R = some ((A ++ (setL cs o vs ++ B)).toArray,E,fr) := by
  subst hA
  rw [blk_wr_eq,hb,Option.map_some]
  simp only [el_sets vs cs o h]
theorem el_blk0 {w : World} {R k : Nat} {A cs B vs : List Value} {E : TypeId} {fr : Nat × Nat} (hb : blk w R = some ((A ++ (cs ++ B)).toArray,E,fr)) (hA : A.length = k) (h : vs.length ≤ cs.length) : blk (wr w R k vs) R = some ((A ++ (setL cs 0 vs ++ B)).toArray,E,fr) := by
  have := el_blk (o := 0) (vs := vs) hb hA (by omega)
  rw [Nat.add_zero] at this;exact this
theorem el_cell {R k o : Nat} {A cs B : List Value} (hA : A.length = k) (ho : o < cs.length) : ((A ++ (cs ++ B)).toArray)[k + o]? = cs[o]? := by subst hA;exact el_get ho
theorem el_cell0 {k : Nat} {A cs B : List Value} (hA : A.length = k) (ho : 0 < cs.length) : ((A ++ (cs ++ B)).toArray)[k]? = cs[0]? := by
  have := el_get (A := A) (B := B) ho
  rw [Nat.add_zero,hA] at this;exact this
theorem SlR.row {α : Type} {Rl : Rel α} {ok : Blocks} {w : World} {E : TypeId} {fr : Nat × Nat} {r q size : Nat} {css : List (List Value)} {rest : List Value} {xs : List α} (hb : blk w r = some ((css.flatten ++ rest).toArray,E,fr)) (hok : ok r) (hc : Css size css) (hq : css.length ≤ q) (ha : All2 (Rl ok w) xs css) :
    SlR ok w size (Rl ok w) (.slice (some ⟨r,0,none⟩) css.length q) xs :=
  ⟨css,⟨_,q,rfl,hq,hc,.inr ⟨_,rfl,rfl,hok,_,hb,fun i hi => by
    simp only [Nat.zero_add,List.getElem?_toArray]
    exact List.getElem?_append_left hi⟩⟩,ha⟩

theorem rdMany_succ (r : St → Tree × St) (n : Nat) (s : St) : rdMany r (n + 1) s = ((r s).1 :: (rdMany r n (r s).2).1,(rdMany r n (r s).2).2) := rfl
theorem rdMany_step {r : St → Tree × St} {N j : Nat} {s1 s : St} {xs : List Tree} (h : rdMany r N s1 = (xs ++ (rdMany r (N - j) s).1,(rdMany r (N - j) s).2)) (hj : j < N) :
    rdMany r N s1 = ((xs ++ [(r s).1]) ++ (rdMany r (N - (j + 1)) (r s).2).1,(rdMany r (N - (j + 1)) (r s).2).2) := by
  have e : N - j = (N - (j + 1)) + 1 := by omega
  rw [e,rdMany_succ] at h
  rw [h];simp
theorem rdL_st {pt : List Fld → St → Tree × St} {dp : List Fld → Tree} {v : Int} {flex : Bool} {f : Fld} {fs : List Fld} {s : St} (ht : f.tag < 0) (hh : hasS f v = true) : rdL pt dp v flex (f :: fs) s = ((rdF pt v flex f s).1 :: (rdL pt dp v flex fs (rdF pt v flex f s).2).1,(rdL pt dp v flex fs (rdF pt v flex f s).2).2) := by
  rw [rdL,if_pos ⟨ht,hh⟩]
theorem rdL_no {pt : List Fld → St → Tree × St} {dp : List Fld → Tree} {v : Int} {flex : Bool} {f : Fld} {fs : List Fld} {s : St} (hh : hasS f v = false) : rdL pt dp v flex (f :: fs) s = (dfF dp f :: (rdL pt dp v flex fs s).1,(rdL pt dp v flex fs s).2) := by
  rw [rdL,if_neg (by rw [hh];simp)]
theorem rdL_nil (pt : List Fld → St → Tree × St) (dp : List Fld → Tree) (v : Int) (flex : Bool) (s : St) : rdL pt dp v flex [] s = ([],s) := rfl
theorem rdP_f {d : Nat} {v : Int} {fs : List Fld} {s : St} {l : List Tree} {e : St} (h : rdL (rdP d v false) (dfP d) v false fs s = (l,e)) : rdP (d + 1) v false fs s = (.mk 0 [] false l [],e) := by
  rw [rdP,if_neg (by decide),h]
theorem rdP_t {d : Nat} {v : Int} {fs : List Fld} {s : St} {l : List Tree} {e : St} (h : rdL (rdP d v true) (dfP d) v true fs s = (l,e)) : rdP (d + 1) v true fs s = (.mk 0 [] false l (rdTags e).1,(rdTags e).2) := by
  rw [rdP,if_pos rfl,h]
section
variable {pt : List Fld → St → Tree × St} {v : Int} {flex : Bool} {f : Fld} {s : St}
theorem rdF_num (k : Int) (hk : f.kind = k) (h : k = 1 ∨ k = 2 ∨ k = 3 ∨ k = 4 ∨ k = 5) : rdF pt v flex f s = (.num (rdInt (kindK k) (widthS k) s).1,(rdInt (kindK k) (widthS k) s).2) := by
  unfold rdF rd1
  rw [if_neg (by omega),if_neg (by omega),if_neg (by omega),if_neg (by omega),if_neg (by omega),if_neg (by omega),hk]
theorem rdF_bool (hk : f.kind = 0) : rdF pt v flex f s = (.num (if beN (rdN 1 s).1 = 0 then 0 else 1),(rdN 1 s).2) := by
  unfold rdF rd1;rw [if_neg (by omega),if_pos hk]
theorem rdF_uuid (hk : f.kind = 7) : rdF pt v flex f s = (.oct false (uuidS (rdSpan 16 s).1),(rdSpan 16 s).2) := by
  unfold rdF rd1;rw [if_neg (by omega),if_neg (by omega),if_pos hk]
theorem rdF_text (hk : f.kind = 8) (hm : mayS f v = false) : rdF pt v flex f s = (.oct false (rdStr flex s).1,(rdStr flex s).2) := by
  unfold rdF rd1;rw [if_neg (by omega),if_neg (by omega),if_neg (by omega),if_pos hk,hm,if_neg (by decide)]
theorem rdF_ptr (hk : f.kind = 8) (hm : mayS f v = true) : rdF pt v flex f s = (.oct (rdNStr flex s).1.1 (rdNStr flex s).1.2,(rdNStr flex s).2) := by
  unfold rdF rd1;rw [if_neg (by omega),if_neg (by omega),if_neg (by omega),if_pos hk,hm,if_pos rfl]
theorem rdF_oct (hk : f.kind = 9) (hm : mayS f v = false) : rdF pt v flex f s = (.oct (rdBytes flex s).1.1 (rdBytes flex s).1.2,(rdBytes flex s).2) := by
  unfold rdF rd1;rw [if_neg (by omega),if_neg (by omega),if_neg (by omega),if_neg (by omega),if_pos hk,hm,if_neg (by decide)]
theorem rdF_noct (hk : f.kind = 9) (hm : mayS f v = true) : rdF pt v flex f s = (.oct (rdNBytes flex s).1.1 (rdNBytes flex s).1.2,(rdNBytes flex s).2) := by
  unfold rdF rd1;rw [if_neg (by omega),if_neg (by omega),if_neg (by omega),if_neg (by omega),if_pos hk,hm,if_pos rfl]
theorem rdF_list (hk : f.kind = 11) : rdF pt v flex f s = rdList f v flex (rd1 pt f.of f.sub false flex) s := by
  unfold rdF;rw [if_pos hk]
end
theorem mayS_no {f : Fld} {v : Int} (h : f.null < 0 ∨ v < f.null) : mayS f v = false := by
  unfold mayS;simp only [Bool.and_eq_false_iff,decide_eq_false_iff_not];omega
theorem mayS_yes {f : Fld} {v : Int} (h1 : 0 ≤ f.null) (h2 : f.null ≤ v) : mayS f v = true := by
  unfold mayS;simp only [Bool.and_eq_true,decide_eq_true_eq];exact ⟨h1,h2⟩
theorem rd1_num {pt : List Fld → St → Tree × St} {sub : List Fld} {may flex : Bool} {s : St} (k : Int) (h : k = 1 ∨ k = 2 ∨ k = 3 ∨ k = 4 ∨ k = 5) : rd1 pt k sub may flex s = (.num (rdInt (kindK k) (widthS k) s).1,(rdInt (kindK k) (widthS k) s).2) := by
  unfold rd1
  rw [if_neg (by omega),if_neg (by omega),if_neg (by omega),if_neg (by omega),if_neg (by omega)]
theorem rd1_text {pt : List Fld → St → Tree × St} {sub : List Fld} {flex : Bool} {s : St} : rd1 pt 8 sub false flex s = (.oct false (rdStr flex s).1,(rdStr flex s).2) := by
  unfold rd1;rw [if_neg (by omega),if_neg (by omega),if_pos rfl,if_neg (by decide)]
theorem rd1_part {pt : List Fld → St → Tree × St} {sub : List Fld} {flex : Bool} {s : St} : rd1 pt 10 sub false flex s = pt sub s := by
  unfold rd1;rw [if_neg (by omega),if_neg (by omega),if_neg (by omega),if_neg (by omega),if_pos rfl]
theorem wrap_wrap (k : IntKind) (n : Int) : k.wrap (k.wrap n) = k.wrap n := by
  cases k <;> simp [IntKind.wrap,IntKind.bits,IntKind.signed] <;> (try split) <;> (try split) <;> omega
theorem numC_rd (k : Int) (h : k = 1 ∨ k = 2 ∨ k = 3 ∨ k = 4 ∨ k = 5) (n : Nat) (s : St) : numC k (rdInt (kindK k) n s).1 = .int (kindK k) (rdInt (kindK k) n s).1 := by
  unfold rdInt
  rcases h with h | h | h | h | h <;> subst h <;> simp [numC,kindK,wrap_wrap]
theorem RepS.introT {d : Nat} {fs : List Fld} {ok : Blocks} {w : World} {t : Tree} {c : List Value} {v : Value} (h1 : RepL (RepS true d) (szS true d) ok w t fs 0 c) (h2 : TagsM ok w v t.u) : RepS true (d + 1) fs ok w t (c ++ [v]) := RepS.intro rfl h1 h2

structure RowJ (size : Nat) (E : TypeId) (zc : List Value) (L N j : Nat) (va : Value) (css : List (List Value)) (w : World) : Prop where
  len : css.length = j
  wid : Css size css
  row : (N = 0 ∧ ∃ a,va = .slice a 0 0 ∧ ∀ x,a = some x → L ≤ x.block ∧ x.block < w.heap.size) ∨ (0 < N ∧ ∃ R q rest,va = .slice (some ⟨R,0,none⟩) N q ∧ N ≤ q ∧ L ≤ R ∧ blk w R = some ((css.flatten ++ (zs zc (N - j) ++ rest)).toArray,E,(0,0)))
theorem RowJ.empty (size : Nat) (E : TypeId) (zc : List Value) (L : Nat) (w : World) : RowJ size E zc L 0 0 (.slice none 0 0) [] w := ⟨rfl,by simp [Css],.inl ⟨rfl,_,rfl,fun _ h => by cases h⟩⟩
theorem RowJ.emptyA {size : Nat} {E : TypeId} {zc : List Value} {L : Nat} {w : World} {a : Addr} (h : L ≤ a.block ∧ a.block < w.heap.size) : RowJ size E zc L 0 0 (.slice (some a) 0 0) [] w := ⟨rfl,by simp [Css],.inl ⟨rfl,_,rfl,fun _ e => by cases e;exact h⟩⟩
theorem RowJ.start {size : Nat} {E : TypeId} {zc : List Value} {L N R q : Nat} {rest : List Value} {w : World} (h0 : 0 < N) (hq : N ≤ q) (hL : L ≤ R) (hb : blk w R = some ((zs zc N ++ rest).toArray,E,(0,0))) : RowJ size E zc L N 0 (.slice (some ⟨R,0,none⟩) N q) [] w :=
  ⟨rfl,by simp [Css],.inr ⟨h0,R,q,rest,rfl,hq,hL,by simpa using hb⟩⟩
theorem RowJ.upd {size : Nat} {E : TypeId} {zc : List Value} {L N j : Nat} {va : Value} {css : List (List Value)} {w w' : World} {S : Nat → Prop} (h : RowJ size E zc L N j va css w) (u : Upd S w w') (hs : ∀ b,ownB va b → ¬ S b) : RowJ size E zc L N j va css w' := by
  refine ⟨h.len,h.wid,?_⟩
  rcases h.row with ⟨h0,a,h1,h2⟩ | ⟨h0,R,q,rest,h1,h2,h3,h4⟩
  · exact .inl ⟨h0,a,h1,fun x hx => ⟨(h2 x hx).1,by have := (h2 x hx).2;have := u.size;omega⟩⟩
  · exact .inr ⟨h0,R,q,rest,h1,h2,h3,u.blk_some h4 (hs R ⟨_,_,_,h1,rfl⟩)⟩
theorem RowJ.shape {size : Nat} {E : TypeId} {zc : List Value} {L N j : Nat} {va : Value} {css : List (List Value)} {w : World} (h : RowJ size E zc L N j va css w) : ∃ a q,va = .slice a N q := by
  rcases h.row with ⟨rfl,a,rfl,_⟩ | ⟨_,R,q,rest,rfl,_⟩
  · exact ⟨_,_,rfl⟩
  · exact ⟨_,_,rfl⟩
theorem RowJ.next {size : Nat} {E : TypeId} {zc : List Value} {L N j : Nat} {va : Value} {css : List (List Value)} {w : World} (h : RowJ size E zc L N j va css w) (hj : j < N) :
    ∃ R q B,va = .slice (some ⟨R,0,none⟩) N q ∧ N ≤ q ∧ L ≤ R ∧ css.flatten.length = j * size ∧ blk w R = some ((css.flatten ++ (zc ++ B)).toArray,E,(0,0)) ∧
      ∀ (w' : World) (c : List Value),c.length = size → blk w' R = some ((css.flatten ++ (c ++ B)).toArray,E,(0,0)) → RowJ size E zc L N (j + 1) va (css ++ [c]) w' := by
  rcases h.row with ⟨h0,_⟩ | ⟨h0,R,q,rest,h1,h2,h3,h4⟩
  · omega
  · have hl := flatten_len h.wid
    rw [h.len] at hl
    have e : N - j = (N - (j + 1)) + 1 := by omega
    rw [e,zs_succ,List.append_assoc] at h4
    refine ⟨R,q,zs zc (N - (j + 1)) ++ rest,h1,h2,h3,hl,h4,fun w' c hc hb => ⟨by simp [h.len],fun cs hm => ?_,.inr ⟨h0,R,q,rest,h1,h2,h3,?_⟩⟩⟩
    · rcases List.mem_append.1 hm with hm | hm
      · exact h.wid _ hm
      · simp only [List.mem_singleton] at hm;rw [hm];exact hc
    · rw [hb];simp [List.append_assoc]
theorem All2.snoc {α β : Type} {R : α → β → Prop} {xs : List α} {ys : List β} {x : α} {y : β} (h : All2 R xs ys) (hx : R x y) : All2 R (xs ++ [x]) (ys ++ [y]) := by
  refine ⟨by simp [h.1],fun i h1 h2 => ?_⟩
  simp only [List.length_append,List.length_cons,List.length_nil] at h1 h2
  have h3 := h.1
  by_cases hi : i < xs.length
  · rw [List.getElem_append_left hi,List.getElem_append_left (by omega)]
    exact h.2 i hi (by omega)
  · have : i = xs.length := by omega
    subst this
    rw [List.getElem_append_right (Nat.le_refl _),List.getElem_append_right (by omega)]
    simpa [h3] using hx
theorem RepF_row {d : Nat} {f : Fld} {v : Int} {ok : Blocks} {w : World} {size : Nat} {E : TypeId} {zc : List Value} {L N : Nat} {n : Int} {va : Value} {css : List (List Value)} {xs : List Tree} (hk : f.kind = 11) (hn : N = 0 → if nilS f v n = true then va = .slice none 0 0 else ∃ a,va = .slice (some a) 0 0) (hN : N = n.toNat) (hsz : sz1 (szS true d) f.of f.sub = size)
    (hr : RowJ size E zc L N N va css w) (ha : All2 (Rep1 (RepS true d) f.of f.sub (fun b => ok b ∧ ¬ ownB va b) w) xs css) (hL : ∀ b,L ≤ b → ok b) : RepF (RepS true d) (szS true d) f ok w (.mk 0 [] (nilS f v n) xs []) [va] := by
  unfold RepF
  rw [if_neg (by omega),if_pos hk]
  refine ⟨va,rfl,?_⟩
  have hl := hr.len
  rcases hr.row with ⟨h0,_⟩ | ⟨h0,R,q,rest,rfl,h2,h3,h4⟩
  · have hv := hn h0
    by_cases hnl : nilS f v n = true
    · rw [if_pos hnl] at hv
      show (if nilS f v n = true then _ else _)
      rw [if_pos hnl];exact hv
    · rw [if_neg hnl] at hv
      obtain ⟨a,rfl⟩ := hv
      show (if nilS f v n = true then _ else _)
      rw [if_neg hnl]
      have hc : css = [] := List.length_eq_zero_iff.1 (by omega)
      subst hc
      have hx : xs = [] := List.length_eq_zero_iff.1 ha.1
      subst hx
      exact ⟨⟨[],⟨_,_,rfl,Nat.le_refl _,(fun _ h => by cases h),.inl rfl⟩,rfl,fun i h => absurd h (Nat.not_lt_zero i)⟩,_,_,_,rfl⟩
  · have : nilS f v n = false := by
      unfold nilS
      split
      · simp only [Bool.and_eq_false_iff,decide_eq_false_iff_not];omega
      · simp only [decide_eq_false_iff_not];omega
    show (if nilS f v n = true then _ else _)
    rw [if_neg (by rw [this];decide),hsz]
    refine ⟨?_,_,_,_,rfl⟩
    have h5 : All2 (Rep1 (RepS true d) f.of f.sub ok w) xs css := ha.imp fun x c hc => (Rep1_lay f.of f.sub fun _ => RepS_lay true d _).weaken hc fun b _ hb => hb.1
    have := SlR.row (Rl := Rep1 (RepS true d) f.of f.sub) (size := size) (css := css) (fr := (0,0)) h4 (hL R h3) hr.wid (by rw [hl];exact h2) h5
    rw [hl] at this
    exact this
theorem nilS_plain {f : Fld} {v n : Int} (h : f.null < 0) (h0 : n ≤ 0) : nilS f v n = true := by unfold nilS;rw [if_neg (by omega)];exact decide_eq_true h0
theorem nilS_may {f : Fld} {v n : Int} (h : 0 ≤ f.null) (hv : f.null ≤ v) : nilS f v n = decide (n < 0) := by unfold nilS;rw [if_pos h,decide_eq_true hv,Bool.true_and]
theorem nilS_early {f : Fld} {v n : Int} (h : 0 ≤ f.null) (hv : v < f.null) : nilS f v n = false := by unfold nilS;rw [if_pos h,decide_eq_false (by omega),Bool.false_and]
theorem rdList_eq {f : Fld} {v : Int} {flex : Bool} {r : St → Tree × St} {s a : St} {n : Int} (h : rdALen flex s = (n,a)) : rdList f v flex r s = (.mk 0 [] (nilS f v n) (rdMany r n.toNat a).1 [],(rdMany r n.toNat a).2) := by
  unfold rdList;rw [h]
theorem RepF_nil {R : List Fld → Rel Tree} {S : List Fld → Nat} {f : Fld} {ok : Blocks} {w : World} (hk : f.kind = 11) : RepF R S f ok w (.mk 0 [] true [] []) [.slice none 0 0] := by
  unfold RepF
  rw [if_neg (by omega),if_pos hk]
  exact ⟨_,rfl,rfl⟩
theorem numC_bool (n : Nat) : numC 0 (if n = 0 then 0 else 1) = .bool (!decide (n = 0)) := by
  by_cases h : n = 0 <;> simp [numC,h]
theorem ownB_row {R n q b : Nat} (h : ownB (.slice (some ⟨R,0,none⟩) n q) b) : b = R := by
  obtain ⟨a,k,c,h1,h2⟩ := h
  simp only [Value.slice.injEq,Option.some.injEq] at h1
  rw [h2,← h1.1]
theorem Rdr.store {T : TypeId} {ok : Blocks} {w : World} {rb B o : Nat} {vs : List Value} {st : St} (h : Rdr T ok w rb st ∧ NN w rb st) (h1 : ¬ rb = B) (h2 : ok B → False) : Rdr T ok (wr w B o vs) rb st ∧ NN (wr w B o vs) rb st := by
  have u : Upd (fun b => b = B) w (wr w B o vs) := (Upd.refl _ _).wr _ _ (.inr rfl)
  exact ⟨h.1.upd u h1 fun b _ hk e => h2 (e ▸ hk),h.2.upd u h1⟩
end Ms

namespace Ms
open Nat renaming reduceEqDiff → n0,reduceAdd → n1,reduceMul → n2,reduceSub → n3,reduceLT → n4,reduceLeDiff → n5
open Int renaming reduceEq → i0,reduceLT → i1,reduceLE → i2,reduceNeg → i3,reduceAdd → i4,reduceSub → i5,reduceMul → i6,reduceToNat → i7
set_option maxRecDepth 8000
open Go Go.Proofs Go.Shelf
attribute [local congr] W_congr WPsq_congr WPp_congr optK_congr addrK_congr intK_congr boolK_congr sliceK_congr tupleK_congr funcK_congr Fn_congr rawK_congr takeK_congr stepK_congr convK_congr aggK_congr

def Glo (ev : Value) (w : World) : Prop := GloBE w ∧ GloErr w ev
theorem Glo.lt {ev : Value} {w : World} (h : Glo ev w) : 1 < w.heap.size ∧ 0 < w.heap.size := by
  obtain ⟨⟨x,hx⟩,y,hy,_⟩ := h
  exact ⟨blk_lt hx,blk_lt hy⟩
theorem Glo.updS {ev : Value} {w w' : World} {S : Nat → Prop} (h : Glo ev w) (u : Upd S w w') (h1 : ¬ S 1) (h2 : ¬ S 0) : Glo ev w' := by
  obtain ⟨⟨x,hx⟩,y,hy,he⟩ := h
  exact ⟨⟨x,u.blk_some hx h1⟩,y,u.blk_some hy h2,he⟩
end Ms

namespace Ms
open Go

structure LstI (T : TypeId) (r : St → Tree × St) (rel : Rel Tree) (size : Nat) (E : TypeId) (zc : List Value) (L N : Nat) (ok okE : Blocks) (rb : Nat) (wa : World) (sA : St) (va : Value) (j : Nat) (s : St) (xs : List Tree) (css : List (List Value)) (w : World) : Prop where
  le : j ≤ N
  row : RowJ size E zc L N j va css w
  all : All2 (rel (fun b => okE b ∧ ¬ ownB va b) w) xs css
  rd : Rdr T ok w rb s ∧ NN w rb s
  upd : Upd (fun b => b = rb) wa w
  eq : rdMany r N sA = (xs ++ (rdMany r (N - j) s).1,(rdMany r (N - j) s).2)
section
variable {T : TypeId} {r : St → Tree × St} {rel : Rel Tree} {size : Nat} {E : TypeId} {zc : List Value} {L N : Nat} {ok okE : Blocks} {rb : Nat} {wa : World} {sA : St} {va : Value} {j : Nat} {s : St} {xs : List Tree} {css : List (List Value)} {w w' : World}
theorem LstI.start (h : RowJ size E zc L N 0 va [] w) (hr : Rdr T ok w rb sA ∧ NN w rb sA) (hu : Upd (fun b => b = rb) wa w) : LstI T r rel size E zc L N ok okE rb wa sA va 0 sA [] [] w :=
  ⟨Nat.zero_le _,h,⟨rfl,fun i h => by simp at h⟩,hr,hu,by simp⟩
theorem RowJ.own (h : RowJ size E zc L N j va css w) {b : Nat} (hb : ownB va b) : L ≤ b ∧ b < w.heap.size := by
  obtain ⟨a,n,c,he,rfl⟩ := hb
  rcases h.row with ⟨_,a',h1,h2⟩ | ⟨_,R,q,rest,h1,_,hL,hbk⟩
  · rw [he] at h1;cases h1;exact h2 _ rfl
  · rw [he] at h1;cases h1;exact ⟨hL,blk_lt hbk⟩
theorem LstI.step (hR : Lay rel size) (h : LstI T r rel size E zc L N ok okE rb wa sA va j s xs css w) (hj : j < N) {c : List Value} (row : RowJ size E zc L N (j + 1) va (css ++ [c]) w') (hx : rel (fun b => okE b ∧ ¬ ownB va b) w' (r s).1 c)
    (u : Upd (fun b => ownB va b ∨ b = rb) w w') (rd : Rdr T ok w' rb (r s).2 ∧ NN w' rb (r s).2) (hok : ¬ okE rb) (hL : wa.heap.size ≤ L) : LstI T r rel size E zc L N ok okE rb wa sA va (j + 1) (r s).2 (xs ++ [(r s).1]) (css ++ [c]) w' := by
  refine ⟨hj,row,(h.all.imp fun x y hxy => hR.keep hxy (u.keeps fun b _ hk e => ?_)).snoc hx,rd,?_,rdMany_step h.eq hj⟩
  · rcases e with e | e
    · exact hk.2 e
    · exact hok (e ▸ hk.1)
  · refine h.upd.trans' u fun i hi e => ?_
    rcases e with e | e
    · have := (h.row.own e).1;omega
    · exact e
theorem LstI.done (h : LstI T r rel size E zc L N ok okE rb wa sA va N s xs css w) : rdMany r N sA = (xs,s) := by
  have := h.eq
  rw [Nat.sub_self] at this
  simpa [rdMany] using this
theorem LstI.bad (h : LstI T r rel size E zc L N ok okE rb wa sA va j s xs css w) (hj : j < N) (hn : (r none).2 = none) (hb : (r s).2 = none) : (rdMany r N sA).2 = none := by
  rw [rdMany_step h.eq hj,hb]
  exact rdMany_none hn _
end
theorem rdP_bad {d : Nat} {v : Int} {flex : Bool} {fs : List Fld} {s : St} (h : (rdL (rdP d v flex) (dfP d) v flex fs s).2 = none) : (rdP (d + 1) v flex fs s).2 = none := by
  rw [rdP]
  split
  · rw [h];exact rdTags_none
  · exact h
theorem rdL_bad {d : Nat} {v : Int} {flex : Bool} {f : Fld} {fs : List Fld} {s : St} (h : (rdF (rdP d v flex) v flex f s).2 = none) : (rdL (rdP d v flex) (dfP d) v flex fs (rdF (rdP d v flex) v flex f s).2).2 = none := by
  rw [h];exact rdL_none (rdP_none v flex d) v flex fs
theorem rdF_listbad {d : Nat} {v : Int} {flex : Bool} {f : Fld} {s : St} (hk : f.kind = 11) (h : (rdMany (rd1 (rdP d v flex) f.of f.sub false flex) (rdALen flex s).1.toNat (rdALen flex s).2).2 = none) : (rdF (rdP d v flex) v flex f s).2 = none := by
  unfold rdF
  rw [if_pos hk]
  exact h
theorem rd1P_none {d : Nat} {v : Int} {flex : Bool} {k : Int} {sub : List Fld} : (rd1 (rdP d v flex) k sub false flex none).2 = none := rd1_none (rdP_none v flex d) _ _ _ _
theorem rdALen_rng (flex : Bool) (st : St) : -2147483648 ≤ (rdALen flex st).1 ∧ (rdALen flex st).1 < 2147483648 := by
  have key : ∀ n : Int,-2147483648 ≤ IntKind.i32.wrap n ∧ IntKind.i32.wrap n < 2147483648 := fun n => by
    unfold IntKind.wrap;simp [IntKind.bits,IntKind.signed];split <;> omega
  have h2 : -2147483648 ≤ (rdCnt flex st).1 ∧ (rdCnt flex st).1 < 2147483648 := by
    cases flex
    · rw [rdCnt_f];unfold rdInt;exact key _
    · rw [rdCnt_t];exact key _
  unfold rdALen
  split
  · exact ⟨by decide,by decide⟩
  · exact h2
theorem rdF_listE {pt : List Fld → St → Tree × St} {v : Int} {flex : Bool} {f : Fld} {s e : St} {xs : List Tree} (hk : f.kind = 11) (h : rdMany (rd1 pt f.of f.sub false flex) (rdALen flex s).1.toNat (rdALen flex s).2 = (xs,e)) : rdF pt v flex f s = (.mk 0 [] (nilS f v (rdALen flex s).1) xs [],e) := by
  unfold rdF
  rw [if_pos hk]
  unfold rdList
  rw [h]
def Holds : List (Nat × Value) → Regs → Prop
  | [],_ => True
  | p :: l,ρ => ρ p.1 = p.2 ∧ Holds l ρ
theorem Holds_nil (ρ : Regs) : Holds [] ρ = True := nr rfl
theorem Holds_cons (r : Nat) (v : Value) (l : List (Nat × Value)) (ρ : Regs) : Holds ((r,v) :: l) ρ = (ρ r = v ∧ Holds l ρ) := nr rfl
def RowQ (l : List (Nat × Value)) (ra : Nat) (I : Value → World → Prop) (ρ : Regs) (w : World) : Prop := Holds l ρ ∧ ∃ v,ρ ra = v ∧ I v w
def LoopQ (l : List (Nat × Value)) (ri : Nat) (I : Nat → World → Prop) (ρ : Regs) (w : World) : Prop := Holds l ρ ∧ ∃ j : Nat,ρ ri = .int .i32 j ∧ I j w
def EndQ (l : List (Nat × Value)) (I : World → Prop) (ρ : Regs) (w : World) : Prop := Holds l ρ ∧ I w
theorem slBase_00 (a : Option Addr) (s : Nat) : slBase a 0 0 s = a := by
  unfold slBase
  rw [if_pos rfl]
theorem RowJ.zero {size : Nat} {E : TypeId} {zc : List Value} {L N : Nat} {w : World} {a : Option Addr} (h0 : N = 0) (h : ∀ x,a = some x → L ≤ x.block ∧ x.block < w.heap.size) : RowJ size E zc L N 0 (.slice a 0 0) [] w := ⟨rfl,by simp [Css],.inl ⟨h0,_,rfl,h⟩⟩
theorem isSome_some {s : St} (h : ¬ s = none) : s.isSome = true := by
  cases s with
  | none => exact absurd rfl h
  | some x => rfl
theorem errV_none {s : St} {ev : Value} (h : s = none) : errV ev s = ev := by subst h;rfl
end Ms

namespace Ms
open Go

theorem beN_append (a b : List UInt8) : beN (a ++ b) = beN a * 256 ^ b.length + beN b := by
  have : ∀ (b : List UInt8) (n : Nat),b.foldl (fun a b => a * 256 + b.toNat) n = n * 256 ^ b.length + beN b := by
    intro b
    induction b with
    | nil => intro n;simp [beN]
    | cons x b ih =>
      intro n
      have h1 := ih (n * 256 + x.toNat)
      have h2 := ih x.toNat
      have e : beN (x :: b) = x.toNat * 256 ^ b.length + beN b := by
        show (x :: b).foldl (fun a b => a * 256 + b.toNat) 0 = _
        rw [List.foldl_cons,Nat.zero_mul,Nat.zero_add];exact h2
      rw [List.foldl_cons,h1,e,List.length_cons,Nat.pow_succ]
      rw [Nat.add_mul,Nat.mul_assoc,Nat.mul_comm 256,Nat.add_assoc]
  unfold beN
  rw [List.foldl_append]
  exact this b _
theorem emod_mul (x m : Int) (hm : 0 < m) : x % (m * 256) = m * (x / m % 256) + x % m := by
  have h1 := Int.emod_add_mul_ediv x m
  have h2 := Int.emod_add_mul_ediv (x / m) 256
  have h3 := Int.emod_nonneg x (show m ≠ 0 by omega)
  have h4 := Int.emod_lt_of_pos x hm
  have h5 := Int.emod_nonneg (x / m) (show (256 : Int) ≠ 0 by omega)
  have h6 := Int.emod_lt_of_pos (x / m) (show (0 : Int) < 256 by omega)
  generalize x % m = r at *
  generalize x / m = q at *
  generalize q % 256 = r' at *
  generalize q / 256 = q' at *
  have e : x = (m * r' + r) + m * 256 * q' := by
    rw [← h1,← h2,Int.mul_add,Int.mul_assoc];omega
  rw [e,Int.add_mul_emod_self_left]
  have h7 : m * r' ≤ m * 255 := Int.mul_le_mul_of_nonneg_left (by omega) (by omega)
  have h8 : 0 ≤ m * r' := Int.mul_nonneg (by omega) h5
  exact Int.emod_eq_of_lt (by omega) (by omega)
theorem beN_fixed (x : Int) : ∀ k,((beN (fixedS x k) : Nat) : Int) = x % ((256 ^ k : Nat) : Int)
  | 0 => by simp [fixedS,beN,Int.emod_one]
  | k + 1 => by
    have ih := beN_fixed x k
    have e : fixedS x (k + 1) = [b8 (x.fdiv (2 ^ (8 * k)))] ++ fixedS x k := rfl
    have hp : (2 : Int) ^ (8 * k) = ((256 ^ k : Nat) : Int) := by rw [Int.pow_mul];simp
    have hpos : 0 < ((256 ^ k : Nat) : Int) := by exact_mod_cast Nat.pow_pos (by omega)
    rw [e,beN_append,beN_1,fixedS_len,Int.natCast_add,Int.natCast_mul,b8_toNat,ih,hp,Int.fdiv_eq_ediv_of_nonneg _ (by omega),Nat.pow_succ,Int.natCast_mul]
    rw [show ((256 : Nat) : Int) = 256 from rfl,emod_mul x _ hpos,Int.mul_comm]
theorem rdN_app (n : Nat) (a r : List UInt8) (h : a.length = n) : rdN n (some (a ++ r)) = (a,some r) := by
  rw [rdN_some (by rw [List.length_append];omega)]
  subst h
  simp
theorem rdInt_fixed (k : IntKind) (n : Nat) (x : Int) (r : List UInt8) (h : k.wrap (x % ((256 ^ n : Nat) : Int)) = k.wrap x) : rdInt k n (some (fixedS x n ++ r)) = (k.wrap x,some r) := by
  rw [rdInt,rdN_app n _ r (fixedS_len _ _)]
  simp only
  rw [beN_fixed,h]
theorem rd_i8 (x : Int) (r : List UInt8) : rdInt .i8 1 (some (fixedS x 1 ++ r)) = (IntKind.i8.wrap x,some r) := rdInt_fixed _ _ _ _ (by unfold IntKind.wrap;simp [IntKind.bits,IntKind.signed])
theorem rd_i16 (x : Int) (r : List UInt8) : rdInt .i16 2 (some (fixedS x 2 ++ r)) = (IntKind.i16.wrap x,some r) := rdInt_fixed _ _ _ _ (by unfold IntKind.wrap;simp [IntKind.bits,IntKind.signed])
theorem rd_u16 (x : Int) (r : List UInt8) : rdInt .u16 2 (some (fixedS x 2 ++ r)) = (IntKind.u16.wrap x,some r) := rdInt_fixed _ _ _ _ (by unfold IntKind.wrap;simp [IntKind.bits,IntKind.signed])
theorem rd_i32 (x : Int) (r : List UInt8) : rdInt .i32 4 (some (fixedS x 4 ++ r)) = (IntKind.i32.wrap x,some r) := rdInt_fixed _ _ _ _ (by unfold IntKind.wrap;simp [IntKind.bits,IntKind.signed])
theorem rd_i64 (x : Int) (r : List UInt8) : rdInt .i64 8 (some (fixedS x 8 ++ r)) = (IntKind.i64.wrap x,some r) := rdInt_fixed _ _ _ _ (by unfold IntKind.wrap;simp [IntKind.bits,IntKind.signed])

theorem uvD_uvar : ∀ (k n : Nat) (r : List UInt8),n < 16 * 128 ^ k → uvD k (uvarS n ++ r) = some (n,r)
  | 0,n,r,h => by
    rw [uvarS_small (by omega)]
    have : (b8 (n : Int)).toNat = n := by have := b8_toNat (n : Int);omega
    simp only [List.cons_append,List.nil_append,uvD,this]
    rw [if_pos (by omega)]
  | k + 1,n,r,h => by
    rcases Nat.lt_or_ge 127 n with hn | hn
    · rw [uvarS_big hn,List.cons_append]
      have hb : (b8 ((n % 128 : Nat) + 128 : Int)).toNat = n % 128 + 128 := by
        have := b8_toNat ((n % 128 : Nat) + 128 : Int);omega
      have hq : n / 128 < 16 * 128 ^ k := by
        rw [Nat.div_lt_iff_lt_mul (by omega)]
        rw [Nat.pow_succ] at h;omega
      simp only [uvD,hb]
      rw [if_neg (by omega),uvD_uvar k (n / 128) r hq,Option.map_some]
      simp only [Option.some.injEq,Prod.mk.injEq,and_true]
      omega
    · rw [uvarS_small hn]
      have : (b8 (n : Int)).toNat = n := by have := b8_toNat (n : Int);omega
      simp only [List.cons_append,List.nil_append,uvD,this]
      rw [if_pos (by omega)]
theorem rdUv_uvar (n : Nat) (r : List UInt8) (h : n < 4294967296) : rdUv (some (uvarS n ++ r)) = (n,some r) := by
  unfold rdUv
  simp only [uvD_uvar 4 n r (by omega)]
theorem rdSpan_app (s r : List UInt8) : rdSpan (s.length : Int) (some (s ++ r)) = (s,some r) := by
  rw [rdSpan_good (by rw [List.length_append];omega)];simp
theorem rdSpan_16 (s r : List UInt8) : rdSpan 16 (some (uuidS s ++ r)) = (uuidS s,some r) := by
  have := rdSpan_app (uuidS s) r
  rw [uuidS_len] at this;exact this
end Ms

namespace Ms
open Go

def cn1 (pt : List Fld → Tree → Tree) (kind : Int) (sub : List Fld) (null : Bool) (t : Tree) : Tree :=
  if kind = 0 then .num (t.n % 2)
  else if kind = 7 then .oct false (uuidS t.s)
  else if kind = 8 ∨ kind = 9 then .oct null (if null = true then [] else wholeS t.s)
  else if kind = 10 then pt sub t
  else .num ((kindK kind).wrap t.n)
def cnF (pt : List Fld → Tree → Tree) (v : Int) (f : Fld) (t : Tree) : Tree :=
  if f.kind = 11 then .mk 0 [] (nilS f v (if nullS f v t = true then -1 else (thingsS t.l).length)) (if nullS f v t = true then [] else (thingsS t.l).map (cn1 pt f.of f.sub false)) []
  else cn1 pt f.kind f.sub (nullS f v t) t
def cnL (pt : List Fld → Tree → Tree) (dp : List Fld → Tree) (v : Int) (t : Tree) : List Fld → Nat → List Tree
  | [],_ => []
  | f :: fs,i => (if f.tag < 0 ∧ hasS f v = true then cnF pt v f (t.at i) else dfF dp f) :: cnL pt dp v t fs (i + 1)
def cnP : Nat → Int → Bool → List Fld → Tree → Tree
  | 0,_,_,_,_ => .zero
  | d + 1,v,flex,fs,t => .mk 0 [] false (cnL (cnP d v flex) (dfP d) v t fs 0) (if flex = true then (unknownS fs t.u).map fun u => (u.1,wholeS u.2) else [])

def numK (k : Int) : Prop := k = 1 ∨ k = 2 ∨ k = 3 ∨ k = 4 ∨ k = 5
instance (k : Int) : Decidable (numK k) := by unfold numK;infer_instance
theorem rdLen_counted (flex null : Bool) (m : Nat) (r : List UInt8) (hm : m ≤ 32767) :
    rdLen flex .i16 2 (some (countedS flex null m 2 ++ r)) = (if null = true then -1 else (m : Int),some r) ∧ rdLen flex .i32 4 (some (countedS flex null m 4 ++ r)) = (if null = true then -1 else (m : Int),some r) := by
  cases flex with
  | true =>
    rw [rdLen_t,rdLen_t]
    cases null with
    | true =>
      have : ∀ n,countedS true true m n = uvarS 0 := fun n => by rw [counted_none,if_pos rfl,uvarS_small (by omega)];rfl
      rw [this,this,rdUv_uvar 0 r (by omega)];exact ⟨rfl,rfl⟩
    | false =>
      have : ∀ n,countedS true false m n = uvarS (m + 1) := fun n => by rw [counted_some,if_pos rfl]
      rw [this,this,rdUv_uvar (m + 1) r (by omega)]
      simp
  | false =>
    rw [rdLen_f,rdLen_f]
    cases null with
    | true =>
      have : ∀ n,countedS false true m n = fixedS (-1) n := fun n => by rw [counted_none];simp
      rw [this,this,rd_i16,rd_i32];exact ⟨rfl,rfl⟩
    | false =>
      have : ∀ n,countedS false false m n = fixedS m n := fun n => by rw [counted_some];simp
      rw [this,this,rd_i16,rd_i32]
      rw [i16_wrap (by omega),i32_wrap (by omega)]
      simp
theorem rdCnt_counted (flex null : Bool) (m : Nat) (r : List UInt8) (hm : m ≤ 32767) : rdCnt flex (some (countedS flex null m 4 ++ r)) = (if null = true then -1 else (m : Int),some r) := by
  have h := (rdLen_counted flex null m r hm).2
  cases flex with
  | true =>
    rw [rdLen_t] at h
    rw [rdCnt_t]
    simp only [Prod.mk.injEq] at h ⊢
    refine ⟨?_,h.2⟩
    have h1 := h.1
    cases null with
    | true =>
      simp only [if_true] at h1 ⊢
      rw [show (((rdUv (some (countedS true true m 4 ++ r))).1 : Nat) : Int) = 0 by omega];rfl
    | false =>
      simp only [Bool.false_eq_true,if_false] at h1 ⊢
      rw [show (((rdUv (some (countedS true false m 4 ++ r))).1 : Nat) : Int) = (m : Int) + 1 by omega,i32_wrap (x := (m : Int) + 1) (by omega),i32_wrap (x := (m : Int) + 1 - 1) (by omega)]
      omega
  | false => rw [rdLen_f] at h;rw [rdCnt_f];exact h

section
variable {pr : List Fld → St → Tree × St} {pw : List Fld → Int → Bool → Tree → List UInt8} {pc : List Fld → Tree → Tree} {v : Int} {flex : Bool}
theorem rd1_value (kind : Int) (sub : List Fld) (null may : Bool) (t : Tree) (r : List UInt8) (hk : kind = 0 ∨ numK kind ∨ (7 ≤ kind ∧ kind ≤ 10)) (hm : null = true → may = true) (hp : kind = 10 → pr sub (some (pw sub v flex t ++ r)) = (pc sub t,some r)) :
    rd1 pr kind sub may flex (some (valueS pw kind sub null v flex t ++ r)) = (cn1 pc kind sub null t,some r) := by
  have hwl := wholeS_len t.s
  have hl := fun m h => rdLen_counted flex null m (((if null = true then [] else wholeS t.s)) ++ r) h
  have hs : ∀ (s : List UInt8),s = (if null = true then [] else wholeS t.s) → s.length ≤ 32767 := fun s e => by
    rw [e];split
    · simp
    · exact hwl
  by_cases h0 : kind = 0
  · subst h0
    have e1 : valueS pw 0 sub null v flex t = [b8 (t.n % 2)] := by simp [valueS]
    have e2 : cn1 pc 0 sub null t = .num (t.n % 2) := by simp [cn1]
    have e3 : ∀ st,rd1 pr 0 sub may flex st = (.num (if beN (rdN 1 st).1 = 0 then 0 else 1),(rdN 1 st).2) := fun st => by simp [rd1]
    rw [e1,e2,e3,rdN_app 1 _ r rfl]
    simp only [beN_1]
    have hb := b8_toNat (t.n % 2)
    congr 2
    split <;> omega
  by_cases h7 : kind = 7
  · subst h7
    have e1 : valueS pw 7 sub null v flex t = uuidS t.s := by simp [valueS,uuidS]
    have e2 : cn1 pc 7 sub null t = .oct false (uuidS t.s) := by simp [cn1]
    have e3 : ∀ st,rd1 pr 7 sub may flex st = (.oct false (uuidS (rdSpan 16 st).1),(rdSpan 16 st).2) := fun st => by simp [rd1]
    rw [e1,e2,e3,rdSpan_16]
    have e : uuidS (uuidS t.s) = uuidS t.s := by
      have hu := uuidS_len t.s
      generalize uuidS t.s = x at *
      unfold uuidS
      rw [List.take_of_length_le (by omega),hu]
      simp
    simp only [e]
  by_cases h8 : kind = 8
  · subst h8
    obtain ⟨s,es⟩ : ∃ s,s = (if null = true then [] else wholeS t.s) := ⟨_,rfl⟩
    have e1 : valueS pw 8 sub null v flex t = countedS flex null s.length 2 ++ s := by rw [es];simp [valueS]
    have e2 : cn1 pc 8 sub null t = .oct null s := by rw [es];simp [cn1]
    have e3 : ∀ st,rd1 pr 8 sub may flex st = if may = true then (.oct (rdNStr flex st).1.1 (rdNStr flex st).1.2,(rdNStr flex st).2) else (.oct false (rdStr flex st).1,(rdStr flex st).2) := fun st => by simp [rd1]
    rw [e1,e2,e3]
    rw [← es] at hl
    have hL := (hl s.length (hs s es)).1
    rw [← List.append_assoc] at hL
    have hst : null = false → rdStr flex (some (countedS flex null s.length 2 ++ s ++ r)) = (s,some r) := fun hn => by
      unfold rdStr;rw [hL,hn];exact rdSpan_app s r
    cases null with
    | true =>
      have := hm rfl;subst this
      simp only [if_true] at hL es ⊢
      unfold rdNStr
      rw [hL]
      simp only
      rw [if_pos (by decide)]
      subst es;rfl
    | false =>
      have hst := hst rfl
      cases may with
      | false => simp only [Bool.false_eq_true,if_false,hst]
      | true =>
        simp only [if_true]
        unfold rdNStr
        rw [hL,hst]
        simp only [Bool.false_eq_true,if_false]
        rw [if_neg (by omega)]
  by_cases h9 : kind = 9
  · subst h9
    obtain ⟨s,es⟩ : ∃ s,s = (if null = true then [] else wholeS t.s) := ⟨_,rfl⟩
    have e1 : valueS pw 9 sub null v flex t = countedS flex null s.length 4 ++ s := by rw [es];simp [valueS]
    have e2 : cn1 pc 9 sub null t = .oct null s := by rw [es];simp [cn1]
    have e3 : ∀ st,rd1 pr 9 sub may flex st = if may = true then (.oct (rdNBytes flex st).1.1 (rdNBytes flex st).1.2,(rdNBytes flex st).2) else (.oct (rdBytes flex st).1.1 (rdBytes flex st).1.2,(rdBytes flex st).2) := fun st => by simp [rd1]
    rw [e1,e2,e3]
    rw [← es] at hl
    have hL := (hl s.length (hs s es)).2
    rw [← List.append_assoc] at hL
    have hst : null = false → rdOct flex (some (countedS flex null s.length 4 ++ s ++ r)) = (s,some r) := fun hn => by
      unfold rdOct;rw [hL,hn];exact rdSpan_app s r
    cases null with
    | true =>
      have := hm rfl;subst this
      simp only [if_true] at hL es ⊢
      unfold rdNBytes
      rw [hL]
      simp only
      rw [if_pos (by decide)]
      subst es;rfl
    | false =>
      have hst := hst rfl
      cases may with
      | false =>
        simp only [Bool.false_eq_true,if_false]
        unfold rdBytes
        rw [hL,hst]
        simp only [Bool.false_eq_true,if_false]
        rw [if_neg (by omega)]
        rfl
      | true =>
        simp only [if_true]
        unfold rdNBytes
        rw [hL,hst]
        simp only [Bool.false_eq_true,if_false]
        rw [if_neg (by omega)]
        rfl
  by_cases h10 : kind = 10
  · subst h10
    have e1 : valueS pw 10 sub null v flex t = pw sub v flex t := by simp [valueS]
    have e2 : cn1 pc 10 sub null t = pc sub t := by simp [cn1]
    have e3 : ∀ st,rd1 pr 10 sub may flex st = pr sub st := fun st => by simp [rd1]
    rw [e1,e2,e3];exact hp rfl
  have hn : numK kind := by rcases hk with h | h | h <;> first | exact h | omega
  rcases hn with h | h | h | h | h <;> subst h
  · have := rd_i8 t.n r;simp [rd1,valueS,cn1,kindK,widthS,this]
  · have := rd_i16 t.n r;simp [rd1,valueS,cn1,kindK,widthS,this]
  · have := rd_i32 t.n r;simp [rd1,valueS,cn1,kindK,widthS,this]
  · have := rd_i64 t.n r;simp [rd1,valueS,cn1,kindK,widthS,this]
  · have := rd_u16 t.n r;simp [rd1,valueS,cn1,kindK,widthS,this]
theorem valueS_pos (kind : Int) (sub : List Fld) (null : Bool) (t : Tree) (hk : kind = 0 ∨ numK kind ∨ (7 ≤ kind ∧ kind ≤ 10)) (hp : kind = 10 → 1 ≤ (pw sub v flex t).length) : 1 ≤ (valueS pw kind sub null v flex t).length := by
  have hc : ∀ n m,1 ≤ n → 1 ≤ (countedS flex null m n).length := fun n m hn => by
    unfold countedS
    split
    · simp
    · split
      · exact uvarS_pos _
      · split <;> rw [fixedS_len] <;> omega
  unfold valueS
  split
  · simp
  · split
    · simp;omega
    · split
      · rw [List.length_append];have := hc 2 (if null = true then [] else wholeS t.s).length (by omega);omega
      · split
        · rw [List.length_append];have := hc 4 (if null = true then [] else wholeS t.s).length (by omega);omega
        · split
          · rename_i h;exact hp h
          · rw [fixedS_len];unfold widthS;repeat (first | omega | split)
theorem rdMany_values (kind : Int) (sub : List Fld) (hk : kind = 0 ∨ numK kind ∨ (7 ≤ kind ∧ kind ≤ 10)) : ∀ (l : List Tree) (r : List UInt8),(∀ x ∈ l,kind = 10 → ∀ r,pr sub (some (pw sub v flex x ++ r)) = (pc sub x,some r)) →
    rdMany (rd1 pr kind sub false flex) l.length (some (l.flatMap (fun x => valueS pw kind sub false v flex x) ++ r)) = (l.map (cn1 pc kind sub false),some r)
  | [],r,_ => rfl
  | x :: l,r,h => by
    have h1 := rd1_value (pr := pr) (pw := pw) (pc := pc) (v := v) (flex := flex) kind sub false false x (l.flatMap (fun x => valueS pw kind sub false v flex x) ++ r) hk (fun h => h) (fun hk => h x (by simp) hk _)
    have h2 := rdMany_values kind sub hk l r fun y hy => h y (by simp [hy])
    rw [List.length_cons,List.flatMap_cons,List.append_assoc,rdMany,h1]
    simp only [h2,List.map_cons]
theorem rdF_field (f : Fld) (t : Tree) (r : List UInt8) (hk : f.kind = 11 ∨ f.kind = 0 ∨ numK f.kind ∨ (7 ≤ f.kind ∧ f.kind ≤ 10)) (ho : f.of = 0 ∨ numK f.of ∨ (7 ≤ f.of ∧ f.of ≤ 10)) (hn : ¬ (f.kind = 10 ∧ 0 ≤ f.null))
    (hp : ∀ x,(f.kind = 10 ∧ x = t) ∨ (f.kind = 11 ∧ f.of = 10 ∧ x ∈ t.l) → ∀ r,pr f.sub (some (pw f.sub v flex x ++ r)) = (pc f.sub x,some r)) (hpos : f.kind = 11 → f.of = 10 → ∀ x ∈ t.l,1 ≤ (pw f.sub v flex x).length) :
    rdF pr v flex f (some (fieldS pw f v flex t ++ r)) = (cnF pc v f t,some r) := by
  unfold rdF cnF fieldS
  by_cases h11 : f.kind = 11
  · rw [if_pos h11,if_pos h11,if_pos h11]
    unfold rdList
    obtain ⟨l,hl⟩ : ∃ l,l = (if nullS f v t = true then [] else thingsS t.l) := ⟨_,rfl⟩
    have hmem : ∀ x ∈ l,x ∈ t.l := fun x hx => by
      rw [hl] at hx
      split at hx
      · cases hx
      · exact List.mem_of_mem_take hx
    have hlen : l.length ≤ 32767 := by
      rw [hl];split
      · simp
      · simp only [thingsS,List.length_take];omega
    rw [← hl,List.append_assoc]
    have hc := rdCnt_counted flex (nullS f v t) l.length (l.flatMap (fun x => valueS pw f.of f.sub false v flex x) ++ r) hlen
    have hge : l.length ≤ (l.flatMap fun x => valueS pw f.of f.sub false v flex x).length := by
      have : ∀ (l : List Tree),(∀ x ∈ l,x ∈ t.l) → l.length ≤ (l.flatMap fun x => valueS pw f.of f.sub false v flex x).length := by
        intro l
        induction l with
        | nil => intro _;simp
        | cons x l ih =>
          intro h
          have h1 := valueS_pos (pw := pw) (v := v) (flex := flex) f.of f.sub false x ho (fun h10 => hpos h11 h10 x (h x (by simp)))
          have h2 := ih fun y hy => h y (by simp [hy])
          rw [List.flatMap_cons,List.length_append,List.length_cons];omega
      exact this l hmem
    have ha : rdALen flex (some (countedS flex (nullS f v t) l.length 4 ++ (l.flatMap (fun x => valueS pw f.of f.sub false v flex x) ++ r))) = (if nullS f v t = true then -1 else (l.length : Int),some (l.flatMap (fun x => valueS pw f.of f.sub false v flex x) ++ r)) := by
      unfold rdALen
      rw [hc,if_neg]
      simp only [stLen,Option.getD_some,List.length_append]
      split <;> omega
    have hM := rdMany_values (pr := pr) (pw := pw) (pc := pc) (v := v) (flex := flex) f.of f.sub ho l r fun x hx h10 r => hp x (.inr ⟨h11,h10,hmem x hx⟩) r
    rw [ha]
    have hq : (if nullS f v t = true then (-1 : Int) else (l.length : Int)).toNat = l.length := by
      split
      · rename_i h;rw [if_pos h] at hl;rw [hl];rfl
      · simp
    simp only [hq,hM]
    congr 1
    cases hnu : nullS f v t with
    | true => rw [hnu] at hl;simp only [if_true] at hl;subst hl;rfl
    | false => rw [hnu] at hl;simp only [Bool.false_eq_true,if_false] at hl;subst hl;rfl
  · rw [if_neg h11,if_neg h11,if_neg h11,if_neg hn]
    refine rd1_value f.kind f.sub (nullS f v t) (mayS f v) t r (by rcases hk with h | h | h | h <;> first | exact absurd h h11 | simp [h]) (fun h => ?_) (fun h10 => hp t (.inl ⟨h10,rfl⟩) r)
    unfold nullS at h
    unfold mayS
    simp only [Bool.and_eq_true,decide_eq_true_eq] at h ⊢
    exact ⟨h.1.2,h.2⟩
end
end Ms

namespace Ms
open Go

theorem Sized.el {N : Nat} {t : Tree} (h : Sized N t) {k : Nat} (hk : k < t.l.length) : ∃ M,Sized M t.l[k] := by
  cases h with
  | mk ns hl he hk' hN => exact ⟨_,he k hk (by simp only [Tree.l] at hk;omega)⟩
theorem rdTag_unk (u : List TagD) (x : TagD) (r : List UInt8) (hk : x.1 < 4294967296) : rdTag u (some (unkT x ++ r)) = (tagPut u (x.1,wholeS x.2),some r) := by
  have hw := wholeS_len x.2
  have e : unkT x ++ r = uvarS x.1 ++ (uvarS (wholeS x.2).length ++ (wholeS x.2 ++ r)) := by simp [unkT,oneTag]
  unfold rdTag
  rw [e,rdUv_uvar _ _ hk]
  simp only
  rw [rdUv_uvar _ _ (by omega)]
  simp only
  rw [rdSpan_app]
theorem rdTagsN_unk : ∀ (l acc : List TagD) (r : List UInt8),(∀ x ∈ l,x.1 < 4294967296) → (∀ x ∈ l,∀ y ∈ acc,y.1 ≠ x.1) → l.Pairwise (fun a b => a.1 ≠ b.1) →
    rdTagsN l.length acc (some (l.flatMap unkT ++ r)) = (acc ++ l.map fun u => (u.1,wholeS u.2),some r)
  | [],acc,r,_,_,_ => by simp [rdTagsN]
  | x :: l,acc,r,h1,h2,h3 => by
    rw [List.length_cons,List.flatMap_cons,List.append_assoc,rdTagsN,rdTag_unk acc x _ (h1 x (by simp))]
    have hn : tagPut acc (x.1,wholeS x.2) = acc ++ [(x.1,wholeS x.2)] := tagPut_new fun z hz => h2 x (by simp) z hz
    simp only [hn]
    rw [List.pairwise_cons] at h3
    rw [rdTagsN_unk l _ r (fun y hy => h1 y (by simp [hy])) (fun y hy z hz => by
      rcases List.mem_append.1 hz with hz | hz
      · exact h2 y (by simp [hy]) z hz
      · simp only [List.mem_singleton] at hz;rw [hz];exact h3.1 y hy) h3.2]
    simp
theorem rdTags_unk (fs : List Fld) (u : List TagD) (r : List UInt8) (hk : ∀ x ∈ u,x.1 < 4294967296) :
    rdTags (some (uvarS (unknownS fs u).length ++ ((unknownS fs u).flatMap unkT ++ r))) = ((unknownS fs u).map fun u => (u.1,wholeS u.2),some r) := by
  have h := unknownS_spec fs u
  have hl := unknownS_len' fs u
  unfold rdTags
  rw [rdUv_uvar _ _ (by omega)]
  simp only
  rw [rdTagsN_unk _ _ _ (fun x hx => hk x (h.2 x hx).1) (fun _ _ _ h => by cases h) (h.1.imp fun h => by omega)]
  simp

def wideS (v : Int) (flex : Bool) (fs : List Fld) : Bool := flex || fs.any fun f => decide (f.tag < 0) && hasS f v
def okR : Nat → Int → Bool → List Fld → Bool
  | 0,_,_,fs => fs.isEmpty
  | d + 1,v,flex,fs => fs.all fun f => decide (f.tag < 0 ∧ (f.kind = 11 ∨ f.kind = 0 ∨ numK f.kind ∨ (7 ≤ f.kind ∧ f.kind ≤ 10)) ∧ (f.of = 0 ∨ numK f.of ∨ (7 ≤ f.of ∧ f.of ≤ 10)) ∧ ¬ (f.kind = 10 ∧ 0 ≤ f.null)) && okR d v flex f.sub && (!(hasS f v) || wideS v flex f.sub || decide (¬ (f.kind = 10 ∨ (f.kind = 11 ∧ f.of = 10))))
theorem okR_el {d : Nat} {v : Int} {flex : Bool} {fs : List Fld} (h : okR (d + 1) v flex fs = true) {f : Fld} (hf : f ∈ fs) :
    f.tag < 0 ∧ (f.kind = 11 ∨ f.kind = 0 ∨ numK f.kind ∨ (7 ≤ f.kind ∧ f.kind ≤ 10)) ∧ (f.of = 0 ∨ numK f.of ∨ (7 ≤ f.of ∧ f.of ≤ 10)) ∧ ¬ (f.kind = 10 ∧ 0 ≤ f.null) ∧ okR d v flex f.sub = true ∧ (hasS f v = true → (f.kind = 10 ∨ (f.kind = 11 ∧ f.of = 10)) → wideS v flex f.sub = true) := by
  simp only [okR,List.all_eq_true] at h
  have := h f hf
  rw [Bool.and_eq_true,Bool.and_eq_true,decide_eq_true_eq] at this
  obtain ⟨⟨⟨h1,h2,h3,h4⟩,h5⟩,h6⟩ := this
  refine ⟨h1,h2,h3,h4,h5,fun h7 h8 => ?_⟩
  rw [h7] at h6
  simp only [Bool.not_true,Bool.false_or,Bool.or_eq_true,decide_eq_true_eq] at h6
  rcases h6 with h6 | h6
  · exact h6
  · exact absurd h8 h6
section
variable {pr : List Fld → St → Tree × St} {pw : List Fld → Int → Bool → Tree → List UInt8} {pc : List Fld → Tree → Tree} {v : Int} {flex : Bool}
theorem fieldS_pos (f : Fld) (t : Tree) (hk : f.kind = 11 ∨ f.kind = 0 ∨ numK f.kind ∨ (7 ≤ f.kind ∧ f.kind ≤ 10)) (hn : ¬ (f.kind = 10 ∧ 0 ≤ f.null)) (hp : f.kind = 10 → 1 ≤ (pw f.sub v flex t).length) : 1 ≤ (fieldS pw f v flex t).length := by
  unfold fieldS
  by_cases h11 : f.kind = 11
  · rw [if_pos h11,List.length_append]
    have hc : ∀ m,1 ≤ (countedS flex (nullS f v t) m 4).length := fun m => by
      unfold countedS
      split
      · simp
      · split
        · exact uvarS_pos _
        · split <;> rw [fixedS_len] <;> omega
    have := hc (if nullS f v t = true then [] else thingsS t.l).length
    omega
  · rw [if_neg h11,if_neg hn]
    exact valueS_pos _ _ _ _ (by rcases hk with h | h | h | h <;> first | exact absurd h h11 | simp [h]) hp
theorem rdL_plain (dp : List Fld → Tree) (t : Tree) : ∀ (fs : List Fld) (i : Nat) (r : List UInt8),
    (∀ f ∈ fs,hasS f v = true → ∀ (i : Nat) (r : List UInt8),rdF pr v flex f (some (fieldS pw f v flex (t.at i) ++ r)) = (cnF pc v f (t.at i),some r)) →
    rdL pr dp v flex fs (some (plainL pw v flex t fs i ++ r)) = (cnL pc dp v t fs i,some r)
  | [],_,r,_ => rfl
  | f :: fs,i,r,h => by
    have ih := fun r => rdL_plain dp t fs (i + 1) r fun g hg => h g (by simp [hg])
    rw [rdL,plainL,cnL]
    by_cases hc : f.tag < 0 ∧ hasS f v = true
    · rw [if_pos hc,if_pos hc,if_pos hc,List.append_assoc,h f (by simp) hc.2 i _]
      simp only [ih]
    · rw [if_neg hc,if_neg hc,if_neg hc,List.nil_append]
      simp only [ih]
end
theorem rdP_part (v : Int) (flex : Bool) : ∀ (d : Nat) (fs : List Fld) (N : Nat) (t : Tree),okR d v flex fs = true → Sized N t →
    (∀ r,rdP (d + 1) v flex fs (some (partS (d + 1) fs v flex t ++ r)) = (cnP (d + 1) v flex fs t,some r)) ∧ (wideS v flex fs = true → 1 ≤ (partS (d + 1) fs v flex t).length) := by
  intro d
  have key : ∀ (d : Nat) (fs : List Fld) (t : Tree),(∀ f ∈ fs,f.tag < 0) → (∀ x ∈ t.u,x.1 < 4294967296) →
      (∀ f ∈ fs,hasS f v = true → ∀ (i : Nat) (r : List UInt8),rdF (rdP d v flex) v flex f (some (fieldS (partS d) f v flex (t.at i) ++ r)) = (cnF (cnP d v flex) v f (t.at i),some r)) →
      (∀ f ∈ fs,hasS f v = true → ∀ (i : Nat),1 ≤ (fieldS (partS d) f v flex (t.at i)).length) →
      (∀ r,rdP (d + 1) v flex fs (some (partS (d + 1) fs v flex t ++ r)) = (cnP (d + 1) v flex fs t,some r)) ∧ (wideS v flex fs = true → 1 ≤ (partS (d + 1) fs v flex t).length) := by
    intro d fs t htag hu h hpos
    have hk := knownS_none htag
    have e2 : tagsS (partS d) (d + 1) fs v flex t = [] := by unfold tagsS;rw [hk];rfl
    have hp := fun r => rdL_plain (pr := rdP d v flex) (pw := partS d) (pc := cnP d v flex) (flex := flex) (dfP d) t fs 0 r h
    constructor
    · intro r
      rw [partS_eq]
      unfold partT
      rw [plainS_L,e2]
      rw [rdP,cnP]
      cases flex with
      | true =>
        simp only [if_true,List.length_nil,Nat.zero_add,List.flatMap_nil,List.nil_append,List.append_assoc]
        rw [hp]
        simp only [rdTags_unk fs t.u r hu]
      | false =>
        simp only [Bool.false_eq_true,if_false]
        rw [hp]
    · intro hw
      rw [partS_eq]
      unfold partT
      cases flex with
      | true =>
        rw [if_pos rfl,List.length_append,List.length_append]
        have := uvarS_pos ((tagsS (partS d) (d + 1) fs v true t).length + (unknownS fs t.u).length)
        omega
      | false =>
        rw [if_neg (by decide),plainS_L]
        simp only [wideS,Bool.false_or,List.any_eq_true,Bool.and_eq_true,decide_eq_true_eq] at hw
        obtain ⟨f,hf,h1,h2⟩ := hw
        have : ∀ (l : List Fld) (i : Nat),f ∈ l → (∀ g ∈ l,g ∈ fs) → 1 ≤ (plainL (partS d) v false t l i).length := by
          intro l
          induction l with
          | nil => intro _ h;cases h
          | cons g l ih =>
            intro i hm hs
            rw [plainL,List.length_append]
            rcases List.mem_cons.1 hm with rfl | hm
            · rw [if_pos ⟨h1,h2⟩]
              have := hpos f hf h2 i
              omega
            · have := ih (i + 1) hm fun g hg => hs g (by simp [hg])
              omega
        exact this fs 0 hf fun _ h => h
  induction d with
  | zero =>
    intro fs N t h hs
    have hnil : fs = [] := by simpa [okR] using h
    subst hnil
    have hu : ∀ x ∈ t.u,x.1 < 4294967296 := by
      cases hs with
      | mk ns hl he hk hN => exact hk
    exact key 0 [] t (fun _ h => by cases h) hu (fun _ h => by cases h) (fun _ h => by cases h)
  | succ d ih =>
    intro fs N t h hs
    have hu : ∀ x ∈ t.u,x.1 < 4294967296 := by
      cases hs with
      | mk ns hl he hk hN => exact hk
    have sub : ∀ (f : Fld) (i : Nat),okR d v flex f.sub = true → ∀ x,(f.kind = 10 ∧ x = t.at i) ∨ (f.kind = 11 ∧ f.of = 10 ∧ x ∈ (t.at i).l) → ∃ M,Sized M x := by
      intro f i _ x hx
      have ha := hs.at i
      rcases hx with ⟨_,rfl⟩ | ⟨_,_,hx⟩
      · exact ⟨_,ha⟩
      · obtain ⟨k,hk,rfl⟩ := List.getElem_of_mem hx
        exact ha.el hk
    refine key (d + 1) fs t (fun f hf => (okR_el h hf).1) hu (fun f hf hh i r => ?_) (fun f hf hh i => ?_)
    · obtain ⟨g1,g2,g3,g4,g5,g6⟩ := okR_el h hf
      refine rdF_field f (t.at i) r g2 g3 g4 (fun x hx r => ?_) (fun h11 h10 x hx => ?_)
      · obtain ⟨M,hM⟩ := sub f i g5 x hx
        exact (ih f.sub M x g5 hM).1 r
      · obtain ⟨M,hM⟩ := sub f i g5 x (.inr ⟨h11,h10,hx⟩)
        exact (ih f.sub M x g5 hM).2 (g6 hh (.inr ⟨h11,h10⟩))
    · obtain ⟨g1,g2,g3,g4,g5,g6⟩ := okR_el h hf
      refine fieldS_pos f (t.at i) g2 g4 fun h10 => ?_
      obtain ⟨M,hM⟩ := sub f i g5 (t.at i) (.inl ⟨h10,rfl⟩)
      exact (ih f.sub M (t.at i) g5 hM).2 (g6 hh (.inl h10))
end Ms

namespace Ms
open Go

theorem fixedS_congr {n m : Int} : ∀ (k : Nat),n % ((256 ^ k : Nat) : Int) = m % ((256 ^ k : Nat) : Int) → fixedS n k = fixedS m k
  | 0,_ => rfl
  | k + 1,h => by
    have hpos : 0 < 256 ^ k := Nat.pow_pos (by omega)
    have e : ((256 ^ (k + 1) : Nat) : Int) = 256 * ((256 ^ k : Nat) : Int) := by rw [Nat.pow_succ,Int.natCast_mul,Int.mul_comm];rfl
    have hp : (2 : Int) ^ (8 * k) = ((256 ^ k : Nat) : Int) := by rw [Int.pow_mul];simp
    rw [e] at h
    have h1 := b8_fdiv (x := n) (y := m) (256 ^ k) h hpos
    have h2 : n % ((256 ^ k : Nat) : Int) = m % ((256 ^ k : Nat) : Int) := by
      have := congrArg (· % ((256 ^ k : Nat) : Int)) h
      simp only [Int.mul_comm 256] at this
      rwa [Int.emod_emod_of_dvd _ (Int.dvd_mul_right _ _),Int.emod_emod_of_dvd _ (Int.dvd_mul_right _ _)] at this
    show b8 (n.fdiv (2 ^ (8 * k))) :: fixedS n k = b8 (m.fdiv (2 ^ (8 * k))) :: fixedS m k
    rw [hp,h1,fixedS_congr k h2]
theorem fixedS_wrap (k : Int) (hk : numK k) (n : Int) : fixedS ((kindK k).wrap n) (widthS k) = fixedS n (widthS k) := by
  refine fixedS_congr _ ?_
  rcases hk with h | h | h | h | h <;> subst h <;> simp [kindK,widthS,IntKind.wrap,IntKind.bits,IntKind.signed] <;> (try split) <;> omega
section
variable {pw : List Fld → Int → Bool → Tree → List UInt8} {pc : List Fld → Tree → Tree} {P : List Fld → Tree → Prop} {v : Int} {flex : Bool}
theorem valueS_cn (kind : Int) (sub : List Fld) (null : Bool) (t : Tree) (hk : kind = 0 ∨ numK kind ∨ (7 ≤ kind ∧ kind ≤ 10)) (hp : kind = 10 → pw sub v flex (pc sub t) = pw sub v flex t) :
    valueS pw kind sub null v flex (cn1 pc kind sub null t) = valueS pw kind sub null v flex t := by
  have hw : wholeS (wholeS t.s) = wholeS t.s := wholeS_id (wholeS_len _)
  by_cases h0 : kind = 0
  · subst h0;simp [valueS,cn1,Tree.num,Tree.n]
  by_cases h7 : kind = 7
  · subst h7
    have e1 : ∀ x,valueS pw 7 sub null v flex x = uuidS x.s := fun x => by simp [valueS,uuidS]
    have e2 : cn1 pc 7 sub null t = .oct false (uuidS t.s) := by simp [cn1]
    rw [e1,e1,e2];exact uuidS_idem _
  by_cases h8 : kind = 8
  · subst h8
    have e1 : ∀ x,valueS pw 8 sub null v flex x = countedS flex null (if null = true then [] else wholeS x.s).length 2 ++ (if null = true then [] else wholeS x.s) := fun x => by simp [valueS]
    have e2 : cn1 pc 8 sub null t = .oct null (if null = true then [] else wholeS t.s) := by simp [cn1]
    rw [e1,e1,e2]
    cases null with
    | true => rfl
    | false =>
      show countedS flex false (wholeS (wholeS t.s)).length 2 ++ wholeS (wholeS t.s) = countedS flex false (wholeS t.s).length 2 ++ wholeS t.s
      rw [hw]
  by_cases h9 : kind = 9
  · subst h9
    have e1 : ∀ x,valueS pw 9 sub null v flex x = countedS flex null (if null = true then [] else wholeS x.s).length 4 ++ (if null = true then [] else wholeS x.s) := fun x => by simp [valueS]
    have e2 : cn1 pc 9 sub null t = .oct null (if null = true then [] else wholeS t.s) := by simp [cn1]
    rw [e1,e1,e2]
    cases null with
    | true => rfl
    | false =>
      show countedS flex false (wholeS (wholeS t.s)).length 4 ++ wholeS (wholeS t.s) = countedS flex false (wholeS t.s).length 4 ++ wholeS t.s
      rw [hw]
  by_cases h10 : kind = 10
  · subst h10
    have e1 : ∀ x,valueS pw 10 sub null v flex x = pw sub v flex x := fun x => by simp [valueS]
    have e2 : cn1 pc 10 sub null t = pc sub t := by simp [cn1]
    rw [e1,e1,e2];exact hp rfl
  have hn : numK kind := by rcases hk with h | h | h <;> first | exact h | omega
  have e1 : ∀ x,valueS pw kind sub null v flex x = fixedS x.n (widthS kind) := fun x => by simp [valueS,h0,h7,h8,h9,h10]
  have e2 : cn1 pc kind sub null t = .num ((kindK kind).wrap t.n) := by simp [cn1,h0,h7,h8,h9,h10]
  rw [e1,e1,e2];exact fixedS_wrap kind hn t.n
theorem cn1_null (kind : Int) (sub : List Fld) (null : Bool) (t : Tree) (h : kind = 8 ∨ kind = 9) : (cn1 pc kind sub null t).null = null := by
  unfold cn1;rw [if_neg (by omega),if_neg (by omega),if_pos h];rfl
theorem cn1_fit (kind : Int) (sub : List Fld) (null : Bool) (t : Tree) (hp : kind = 10 → P sub (pc sub t)) : Fit1 P kind sub (cn1 pc kind sub null t) := by
  refine ⟨fun h => ?_,fun h => ?_⟩
  · unfold cn1;rw [if_neg (by omega),if_neg (by omega),if_pos h]
    show (if null = true then [] else wholeS t.s).length ≤ 32767
    split
    · simp
    · exact wholeS_len _
  · subst h;have e2 : cn1 pc 10 sub null t = pc sub t := by simp [cn1]
    rw [e2];exact hp rfl
theorem Tree.l_mk (n : Int) (s : List UInt8) (b : Bool) (l : List Tree) (u : List TagD) : (Tree.mk n s b l u).l = l := rfl
theorem nilS_bool (f : Fld) (b : Bool) (n : Nat) : (0 ≤ f.null → nilS f v (if (b && decide (f.null ≥ 0) && decide (v ≥ f.null)) = true then -1 else (n : Int)) = (b && decide (f.null ≥ 0) && decide (v ≥ f.null))) := by
  intro h
  unfold nilS
  rw [if_pos h]
  have h1 : decide (f.null ≥ 0) = true := by simpa using h
  rw [h1]
  by_cases h2 : f.null ≤ v
  · have h3 : decide (v ≥ f.null) = true := by simpa using h2
    rw [h3]
    cases b <;> simp
  · have h3 : decide (v ≥ f.null) = false := by simpa using h2
    rw [h3];simp
theorem nilS_eq (f : Fld) (t : Tree) (n : Nat) (h : 0 ≤ f.null) : nilS f v (if nullS f v t = true then -1 else (n : Int)) = nullS f v t := nilS_bool f t.null n h
theorem nilS_null (f : Fld) (t : Tree) (n : Nat) (l : List Tree) : nullS f v (.mk 0 [] (nilS f v (if nullS f v t = true then -1 else (n : Int))) l []) = nullS f v t := by
  by_cases h : 0 ≤ f.null
  · rw [nilS_eq f t n h]
    exact (nullS_idem f v t (.mk 0 [] (nullS f v t) l []) rfl).symm
  · rw [nullS_neg (by omega),nullS_neg (by omega)]
theorem fieldS_cn (f : Fld) (t : Tree) (hk : f.kind = 11 ∨ f.kind = 0 ∨ numK f.kind ∨ (7 ≤ f.kind ∧ f.kind ≤ 10)) (ho : f.of = 0 ∨ numK f.of ∨ (7 ≤ f.of ∧ f.of ≤ 10)) (hn : ¬ (f.kind = 10 ∧ 0 ≤ f.null)) (hp : ∀ x,pw f.sub v flex (pc f.sub x) = pw f.sub v flex x) :
    fieldS pw f v flex (cnF pc v f t) = fieldS pw f v flex t := by
  unfold cnF
  by_cases h11 : f.kind = 11
  · rw [if_pos h11]
    have hnu : nullS f v (.mk 0 [] (nilS f v (if nullS f v t = true then -1 else (((thingsS t.l).length : Nat) : Int))) (if nullS f v t = true then [] else (thingsS t.l).map (cn1 pc f.of f.sub false)) []) = nullS f v t := nilS_null f t _ _
    unfold fieldS
    rw [if_pos h11,if_pos h11,hnu]
    cases hq : nullS f v t with
    | true => rfl
    | false =>
      simp only [Bool.false_eq_true,if_false,Tree.l_mk]
      have hth : thingsS ((thingsS t.l).map (cn1 pc f.of f.sub false)) = (thingsS t.l).map (cn1 pc f.of f.sub false) := thingsS_id (by simp only [List.length_map,thingsS,List.length_take];omega)
      rw [hth,List.length_map,List.flatMap_map]
      congr 1
      refine flatMap_ext fun x _ => valueS_cn f.of f.sub false x ho fun _ => hp x
  · rw [if_neg h11]
    unfold fieldS
    rw [if_neg h11,if_neg h11,if_neg hn,if_neg hn]
    have e : nullS f v (cn1 pc f.kind f.sub (nullS f v t) t) = nullS f v t ∨ (f.kind ≠ 8 ∧ f.kind ≠ 9) := by
      by_cases h89 : f.kind = 8 ∨ f.kind = 9
      · exact .inl ((nullS_idem f v t (cn1 pc f.kind f.sub (nullS f v t) t) (cn1_null _ _ _ _ h89)).symm.trans (cn1_null _ _ _ _ h89))
      · exact .inr (not_or.1 h89)
    have hk' : f.kind = 0 ∨ numK f.kind ∨ (7 ≤ f.kind ∧ f.kind ≤ 10) := by rcases hk with h | h | h | h <;> first | exact absurd h h11 | simp [h]
    rcases e with e | e
    · rw [e];exact valueS_cn _ _ _ _ hk' fun _ => hp t
    · have : ∀ a b x,valueS pw f.kind f.sub a v flex x = valueS pw f.kind f.sub b v flex x := fun a b x => by
        unfold valueS;rw [if_neg e.1,if_neg e.2,if_neg e.1,if_neg e.2]
      rw [this _ (nullS f v t)];exact valueS_cn _ _ _ _ hk' fun _ => hp t
theorem fit_cn (f : Fld) (t : Tree) (hk : f.kind = 11 ∨ f.kind = 0 ∨ numK f.kind ∨ (7 ≤ f.kind ∧ f.kind ≤ 10)) (hn : ¬ (f.kind = 10 ∧ 0 ≤ f.null)) (hp : ∀ x,P f.sub (pc f.sub x)) (hpn : ∀ x,(pc f.sub x).null = false) : FitWF P v f (cnF pc v f t) := by
  unfold cnF
  by_cases h11 : f.kind = 11
  · rw [if_pos h11]
    have hnu : nullS f v (.mk 0 [] (nilS f v (if nullS f v t = true then -1 else (((thingsS t.l).length : Nat) : Int))) (if nullS f v t = true then [] else (thingsS t.l).map (cn1 pc f.of f.sub false)) []) = nullS f v t := nilS_null f t _ _
    refine ⟨?_,?_⟩
    · by_cases h0 : 0 ≤ f.null
      · left
        rw [hnu]
        exact nilS_eq f t _ h0
      · have hq := nullS_neg (f := f) (v := v) (t := t) (by omega)
        by_cases hl : (thingsS t.l).length = 0
        · right
          refine ⟨by omega,.inr h11,?_,rfl,?_⟩
          · show nilS f v _ = true
            unfold nilS;rw [if_neg h0,hq];simp [hl]
          · have := List.eq_nil_of_length_eq_zero hl
            show (if nullS f v t = true then [] else (thingsS t.l).map (cn1 pc f.of f.sub false)) = []
            rw [this];simp
        · left
          rw [hnu,hq]
          show nilS f v _ = false
          unfold nilS;rw [if_neg h0];simp only [Bool.false_eq_true,if_false,decide_eq_false_iff_not];omega
    · rw [if_pos h11]
      refine ⟨?_,fun x hx => ?_⟩
      · show (if nullS f v t = true then [] else (thingsS t.l).map (cn1 pc f.of f.sub false)).length ≤ 32767
        split
        · simp
        · simp only [List.length_map,thingsS,List.length_take];omega
      · have hx : x ∈ (if nullS f v t = true then [] else (thingsS t.l).map (cn1 pc f.of f.sub false)) := hx
        split at hx
        · cases hx
        · obtain ⟨y,_,rfl⟩ := List.mem_map.1 hx
          exact cn1_fit _ _ _ _ fun _ => hp y
  · rw [if_neg h11]
    refine ⟨.inl ?_,by rw [if_neg h11];exact cn1_fit _ _ _ _ fun _ => hp t⟩
    by_cases h89 : f.kind = 8 ∨ f.kind = 9
    · exact nullS_idem f v t (cn1 pc f.kind f.sub (nullS f v t) t) (cn1_null _ _ _ _ h89)
    · have : (cn1 pc f.kind f.sub (nullS f v t) t).null = false := by
        unfold cn1
        split
        · rfl
        · split
          · rfl
          · try rw [if_neg h89]
            split
            · exact hpn t
            · rfl
      rw [this];exact (nullS_false f v _ this).symm
end
theorem cnL_get (pc : List Fld → Tree → Tree) (dp : List Fld → Tree) (v : Int) (t : Tree) : ∀ (fs : List Fld) (i k : Nat) (h : k < fs.length),(cnL pc dp v t fs i).getD k .zero = if fs[k].tag < 0 ∧ hasS fs[k] v = true then cnF pc v fs[k] (t.at (i + k)) else dfF dp fs[k]
  | f :: fs,i,0,h => by simp [cnL]
  | f :: fs,i,k + 1,h => by
    have := cnL_get pc dp v t fs (i + 1) k (by simpa using h)
    simp only [cnL,List.getD_cons_succ,List.getElem_cons_succ]
    rw [this,show i + 1 + k = i + (k + 1) by omega]
theorem cnP_null (d : Nat) (v : Int) (flex : Bool) (fs : List Fld) (t : Tree) : (cnP d v flex fs t).null = false := by
  cases d <;> rfl
theorem partS_cn (v : Int) (flex : Bool) : ∀ (d : Nat) (fs : List Fld) (t : Tree),okR d v flex fs = true →
    partS (d + 1) fs v flex (cnP (d + 1) v flex fs t) = partS (d + 1) fs v flex t ∧ FitW v (d + 1) fs (cnP (d + 1) v flex fs t) := by
  have key : ∀ (d : Nat) (fs : List Fld) (t : Tree),(∀ f ∈ fs,f.tag < 0) → (∀ f ∈ fs,∀ x,fieldS (partS d) f v flex (cnF (cnP d v flex) v f x) = fieldS (partS d) f v flex x) → (∀ f ∈ fs,∀ x,FitWF (FitW v d) v f (cnF (cnP d v flex) v f x)) →
      partS (d + 1) fs v flex (cnP (d + 1) v flex fs t) = partS (d + 1) fs v flex t ∧ FitW v (d + 1) fs (cnP (d + 1) v flex fs t) := by
    intro d fs t htag hf hfit
    have hk := knownS_none htag
    have e2 : ∀ x,tagsS (partS d) (d + 1) fs v flex x = [] := fun x => by unfold tagsS;rw [hk];rfl
    have hat : ∀ k (h : k < fs.length),(cnP (d + 1) v flex fs t).at k = if fs[k].tag < 0 ∧ hasS fs[k] v = true then cnF (cnP d v flex) v fs[k] (t.at k) else dfF (dfP d) fs[k] := fun k h => by
      have := cnL_get (cnP d v flex) (dfP d) v t fs 0 k h
      rw [Nat.zero_add] at this
      exact this
    have hu : (cnP (d + 1) v flex fs t).u = if flex = true then fitU fs t.u else [] := rfl
    constructor
    · have e6 : plainS (partS d) fs v flex (cnP (d + 1) v flex fs t) = plainS (partS d) fs v flex t := by
        unfold plainS
        refine flatMap_ext fun x hx => ?_
        obtain ⟨f,i⟩ := x
        rw [List.mem_zipIdx_iff_getElem?] at hx
        obtain ⟨hi,he⟩ := List.getElem?_eq_some_iff.1 hx
        simp only at hi he ⊢
        by_cases hc : f.tag < 0 ∧ hasS f v = true
        · rw [if_pos hc,if_pos hc,hat i hi,he,if_pos hc]
          exact hf f (by rw [← he];exact List.getElem_mem _) _
        · rw [if_neg hc,if_neg hc]
      rw [partS_eq,partS_eq]
      unfold partT
      rw [e2,e2,e6]
      cases flex with
      | false => rfl
      | true =>
        simp only [if_true]
        have e1 : unknownS fs (fitU fs t.u) = fitU fs t.u := unknownS_id (fitU_fit fs t.u)
        have e3 : (fitU fs t.u).flatMap unkT = (unknownS fs t.u).flatMap unkT := by
          rw [fitU,List.flatMap_map]
          congr 1;funext x
          simp only [unkT];rw [wholeS_id (wholeS_len x.2)]
        have e4 : (fitU fs t.u).length = (unknownS fs t.u).length := by simp [fitU]
        rw [hu,if_pos rfl,e1,e3,e4]
    · refine ⟨?_,?_⟩
      · have : ∀ (l : List Fld) (i : Nat),i + l.length = fs.length → (∀ k (hk : k < l.length) (hk2 : i + k < fs.length),l[k] = fs[i + k]) → FitWL (FitW v d) v (cnP (d + 1) v flex fs t) l i := by
          intro l
          induction l with
          | nil => intro i _ _;trivial
          | cons f l ihl =>
            intro i hi hl
            simp only [List.length_cons] at hi
            have e := hl 0 (by simp) (by omega)
            simp only [List.getElem_cons_zero,Nat.add_zero] at e
            refine ⟨fun hh => ?_,ihl (i + 1) (by omega) fun k hk hk2 => ?_⟩
            · have hm : f ∈ fs := by rw [e];exact List.getElem_mem _
              rw [hat i (by omega),← e,if_pos ⟨htag f hm,hh⟩]
              exact hfit f hm _
            · have := hl (k + 1) (by simpa using hk) (by omega)
              simp only [List.getElem_cons_succ] at this
              rw [this];congr 1;omega
        exact this fs 0 (by omega) fun k hk hk2 => by simp
      · rw [hu]
        split
        · exact fitU_fit _ _
        · exact ⟨by simp,fun x h => (by cases h),List.Pairwise.nil⟩
  intro d
  induction d with
  | zero =>
    intro fs t h
    have hnil : fs = [] := by simpa [okR] using h
    subst hnil
    exact key 0 [] t (fun _ h => by cases h) (fun _ h => by cases h) (fun _ h => by cases h)
  | succ d ih =>
    intro fs t h
    refine key (d + 1) fs t (fun f hf => (okR_el h hf).1) (fun f hf x => ?_) (fun f hf x => ?_)
    · obtain ⟨g1,g2,g3,g4,g5,g6⟩ := okR_el h hf
      exact fieldS_cn f x g2 g3 g4 fun y => (ih f.sub y g5).1
    · obtain ⟨g1,g2,g3,g4,g5,g6⟩ := okR_el h hf
      exact fit_cn f x g2 g4 (fun y => (ih f.sub y g5).2) fun y => cnP_null _ _ _ _ _
end Ms

namespace Ms
open Go
theorem nullS_early {f : Fld} {v : Int} {t : Tree} (h : v < f.null) : nullS f v t = false := by
  unfold nullS
  have : decide (v ≥ f.null) = false := by simp;omega
  rw [this];simp
section
variable {P : List Fld → Tree → Prop} {V : Int} {f : Fld} {t : Tree}
theorem FitWF.listL (h : FitWF P V f t) (hk : f.kind = 11) {L : List Tree} (hL : L = if nullS f V t = true then [] else t.l) : L.length ≤ 32767 ∧ ∀ x ∈ L,Fit1 P f.of f.sub x := by
  subst hL
  split
  · exact ⟨by simp,fun x hx => by cases hx⟩
  · exact h.list hk
theorem RepF_listN {R : List Fld → Rel Tree} {S : List Fld → Nat} {ok : Blocks} {w : World} {c : List Value} (hg : FitWF P V f t) (h : f.kind = 11) (hn : 0 ≤ f.null) (hr : RepF R S f ok w t c) :
    ∃ v L,c = [v] ∧ L = (if nullS f V t = true then [] else t.l) ∧ SlR ok w (sz1 S f.of f.sub) (Rep1 R f.of f.sub ok w) v L ∧ ∀ a n k,v = .slice a n k → a.isNone = nullS f V t := by
  unfold RepF at hr
  rw [if_neg (by omega),if_pos h] at hr
  obtain ⟨v,rfl,hr⟩ := hr
  rw [hg.isnull hn] at hr
  refine ⟨v,_,rfl,rfl,?_⟩
  by_cases ht : nullS f V t = true
  · rw [if_pos ht] at hr ⊢
    subst hr
    refine ⟨⟨[],⟨none,0,rfl,Nat.le_refl _,by simp,.inl rfl⟩,rfl,fun i h => by simp at h⟩,fun a n k e => ?_⟩
    cases e;rw [ht];rfl
  · rw [if_neg ht] at hr ⊢
    refine ⟨hr.1,fun a n k e => ?_⟩
    obtain ⟨a',n',k',e'⟩ := hr.2
    rw [e'] at e;cases e
    cases hb : nullS f V t with
    | true => exact absurd hb ht
    | false => rfl
theorem RepF_bytesN {R : List Fld → Rel Tree} {S : List Fld → Nat} {ok : Blocks} {w : World} {c : List Value} (hg : FitWF P V f t) (h : f.kind = 9) (hn : 0 ≤ f.null) (hr : RepF R S f ok w t c) : ∃ v,c = [v] ∧ OptBytes ok w v (nullS f V t) t.s := by
  obtain ⟨v,rfl,ho⟩ := (RepF_bytes h).1 hr
  rw [hg.isnull hn] at ho
  exact ⟨v,rfl,ho⟩
variable {pt : List Fld → Int → Bool → Tree → List UInt8} {flex : Bool}
theorem fieldS_listN (hg : FitWF P V f t) (hk : f.kind = 11) {L : List Tree} (hL : L = if nullS f V t = true then [] else t.l) {g : Tree → List UInt8} (hx : ∀ x ∈ L,valueS pt f.of f.sub false V flex x = g x) : fieldS pt f V flex t = countedS flex (nullS f V t) L.length 4 ++ L.flatMap g := by
  unfold fieldS
  rw [if_pos hk,thingsS_id (hg.list hk).1,← hL,flatMap_ext hx]
theorem fieldS_nbytes_t (hg : FitWF P V f t) (hk : f.kind = 9) : fieldS pt f V true t = if nullS f V t = true then [0] else uvarS (t.s.length + 1) ++ t.s := by
  rw [fieldS_one (by omega),hk,valueS_bytes (hg.text (.inr hk))]
  simp
theorem fieldS_nbytes_f (hg : FitWF P V f t) (hk : f.kind = 9) : fieldS pt f V false t = if nullS f V t = true then fixedS (-1) 4 else fixedS t.s.length 4 ++ t.s := by
  rw [fieldS_one (by omega),hk,valueS_bytes (hg.text (.inr hk))]
  simp
end
theorem optBytes_shapeN {ok : Blocks} {w : World} {v : Value} {null : Bool} {s : List UInt8} (h : OptBytes ok w v null s) : (null = true ∧ v = .slice none 0 0) ∨ (null = false ∧ ∃ a c,v = .slice (some a) s.length c ∧ BytesV ok w v s) := by
  unfold OptBytes at h
  cases null with
  | true => rw [if_pos rfl] at h;exact .inl ⟨rfl,h⟩
  | false =>
    rw [if_neg (by decide)] at h
    obtain ⟨hb,a,n,c,rfl⟩ := h
    obtain ⟨a',c',e,_⟩ := id hb
    rw [List.length_map] at e
    cases e
    exact .inr ⟨rfl,_,_,rfl,hb⟩
end Ms

namespace Ms
open Go
section
variable {P : Program}
theorem wp_appendIn {T X E : TypeId} {size bytes : Nat} (F : AppT P T X E size bytes) {w : World} {ρ : Regs} {d : Option Nat} {x y : Operand} {type : TypeId} {pos : String} {after : Array Edge} {guard : Option (Nat × Bool)} {K : Regs → World → Prop} {u : Value} {g n m cap : Nat} {xb : Blk} {news : List Value}
    (hv : ev ρ x = .slice (some ⟨g,0,none⟩) n cap) (hu : ev ρ y = u) (hb : blk w g = some xb) (hx : Src w size u m news) (hle : n + m ≤ cap) (hsz : n * size + news.length ≤ xb.1.size) (hth : xb.2.2.2 ≤ n * size ∨ n * size + news.length ≤ xb.2.2.1)
    (hk : K (put ρ d (.slice (some ⟨g,0,none⟩) (n + m) cap)) (wr w g (n * size) news)) :
    rawK P { dst := d,op := .call { callee := .builtin .append,args := #[x,y],argTypes := #[T,X] },type := type,pos := pos,after := after,guard := guard } ρ w K := by
  refine ⟨?_⟩
  obtain ⟨ei,z,hi,hs,hby,hz,hzs⟩ := F.info
  have hst := run_storeCells (P := P) news w (n * size) 0 _ hb (by simpa using hsz) (by simpa using hth) hx.2.1
  simp only [Nat.add_zero] at hst
  have h1 : (Builtin.append_ #[T,X] type #[.slice (some ⟨g,0,none⟩) n cap,u]).run P w = .ok (.slice (some ⟨g,0,none⟩) (n + m) cap) (wr w g (n * size) news) := by
    rw [run_append_prefix F hx (.inl hle) type hi hby hs,if_pos hle]
    simp only [Sem.run_bind,run_firstCells hx,Result.andThen_ok,add_plain,Nat.zero_add,hst,Sem.run_pure]
  have : (execOp (ev ρ) { dst := d,op := .call { callee := .builtin .append,args := #[x,y],argTypes := #[T,X] },type := type,pos := pos,after := after,guard := guard }).run P w = .ok (.value (.slice (some ⟨g,0,none⟩) (n + m) cap)) (wr w g (n * size) news) := by
    simp only [execOp,resolve,Sem.run_bind,Sem.run_pure,Result.andThen_ok,invoke,builtin,List.map_toArray,List.map_cons,List.map_nil,hv,hu,h1]
  rw [this]
  exact hk
theorem convK_strV (P : Program) (S T : TypeId) (s : List UInt8) (k : Value → Prop) (raw : Prop) : convK P S T (strV s) k raw = raw := nr rfl
end
theorem OwnBy.front {B : Nat} {w w' : World} {E : TypeId} {g cap : Nat} {s a : List UInt8} (h : OwnBy E B w (.slice (some ⟨g,0,none⟩) s.length cap) s) (ha : a.length ≤ s.length) (hb : blk w' g = (blk w g).map fun x => (wrArr x.1 0 (a.map byteV),x.2)) : OwnBy E B w' (.slice (some ⟨g,0,none⟩) s.length cap) (a ++ s.drop a.length) := by
  obtain ⟨h0,h⟩ := h
  have hl : (a ++ s.drop a.length).length = s.length := by rw [List.length_append,List.length_drop];omega
  refine ⟨by rw [List.length_map,Nat.mul_one],?_⟩
  rcases h with ⟨h,_⟩ | ⟨g',cap',rest,fr,h1,h2,h3,h4,h5,h6⟩
  · cases h
  · cases h1
    refine .inr ⟨g,cap,rest,fr,by rw [hl],h2,?_,by rw [List.length_map,hl];rw [List.length_map] at h4;exact h4,h5,by rw [hl];exact h6⟩
    rw [hb,h3,Option.map_some]
    congr 2
    apply Array.ext_getElem?
    intro i
    rw [wrArr_get]
    simp only [List.size_toArray,List.length_append,List.length_map,List.getElem?_toArray,List.map_append,List.map_drop,Nat.sub_zero,Nat.zero_add,Nat.zero_le,true_and]
    by_cases hi : i < a.length
    · rw [if_pos (by omega),List.getElem?_append_left (by simp;omega),List.getElem?_append_left (by simp;omega)]
    · rw [if_neg (by omega)]
      by_cases hi2 : i < s.length
      · rw [List.getElem?_append_left (by simp;omega),List.getElem?_append_left (by simp;omega),List.getElem?_append_right (by simp;omega),List.getElem?_drop]
        congr 1;simp;omega
      · rw [List.getElem?_append_right (by simp;omega),List.getElem?_append_right (by simp;omega)]
        congr 1;simp;omega

def frameB (key ver number : Int) (null : Bool) (id : List UInt8) (flex : Bool) (body : List UInt8) : List UInt8 :=
  fixedS key 2 ++ fixedS ver 2 ++ fixedS number 4 ++ (if null = true then fixedS (-1) 2 else fixedS id.length 2 ++ id) ++ (if flex = true then [0] else []) ++ body
def frameS (key ver number : Int) (null : Bool) (id : List UInt8) (flex : Bool) (body : List UInt8) : List UInt8 :=
  fixedS (frameB key ver number null id flex body).length 4 ++ frameB key ver number null id flex body
theorem frameB_len (key ver number : Int) (null : Bool) (id : List UInt8) (flex : Bool) (body : List UInt8) (h : id.length ≤ 32767) : (frameB key ver number null id flex body).length ≤ 32780 + body.length := by
  unfold frameB
  simp only [List.length_append,fixedS_len]
  split <;> split <;> simp only [List.length_append,fixedS_len,List.length_cons,List.length_nil] <;> omega
structure ReqOk (P : Program) (E T : TypeId) (mp : Value) (B : Nat) (key ver : Int) (flex : Bool) (body : List UInt8) (Gd : World → Prop) : Prop where
  keep : ∀ w w',Gd w → Upd (fun b => B ≤ b) w w' → Gd w'
  recv : recvOk P T true = true
  key : ∃ f,methodP P T "Key" = some (f,true) ∧ callable P f = true ∧ ∀ w,Gd w → Fn P f #[mp] w fun r w' => r = .int .i16 key ∧ w' = w
  ver : ∃ f,methodP P T "GetVersion" = some (f,true) ∧ callable P f = true ∧ ∀ w,Gd w → Fn P f #[mp] w fun r w' => r = .int .i16 ver ∧ w' = w
  flex : ∃ f,methodP P T "IsFlexible" = some (f,true) ∧ callable P f = true ∧ ∀ w,Gd w → Fn P f #[mp] w fun r w' => r = .bool flex ∧ w' = w
  app : ∃ f,methodP P T "AppendTo" = some (f,true) ∧ callable P f = true ∧ ∀ w v s B',Gd w → B ≤ B' → B' ≤ w.heap.size → OwnBy E B' w v s → s.length ≤ 40000 → Fn P f #[mp,v] w fun r w' => AppR E B' w v s body r w'
end Ms

namespace Ms
open Go.World renaming size_alloc → qI
open Ms renaming size_wr → qJ,size_drew → qK,not_noB → qL
open W renaming seqR → qA,seq → qB,regR → qC,condK → qD,block → qE,skip → qF,ret → qG,exit → qH
open Nat renaming reduceEqDiff → n0,reduceAdd → n1,reduceMul → n2,reduceSub → n3,reduceLT → n4,reduceLeDiff → n5
open Int renaming reduceEq → i0,reduceLT → i1,reduceLE → i2,reduceNeg → i3,reduceAdd → i4,reduceSub → i5,reduceMul → i6,reduceToNat → i7
set_option maxRecDepth 8000
set_option maxHeartbeats 24000000
open Go Go.Proofs Go.Shelf
attribute [local congr] W_congr WPsq_congr WPp_congr optK_congr addrK_congr intK_congr boolK_congr sliceK_congr tupleK_congr funcK_congr Fn_congr rawK_congr takeK_congr stepK_congr convK_congr aggK_congr

theorem AppendUint32In_fn {g cap : Nat} {xb : Blk} (w : World) (hb : blk w g = some xb) (hc : 4 ≤ cap) (hx : 4 ≤ xb.1.size) (hth : xb.2.2.2 ≤ 0 ∨ 4 ≤ xb.2.2.1) (u : Int) (hu : 0 ≤ u ∧ u < 4294967296) :
    Fn Tryd.prog 52 #[.slice (some ⟨g,0,none⟩) 0 cap,.int .u32 u] w fun _ w' => Upd (fun b => b = g) w w' ∧ blk w' g = (blk w g).map fun x => (wrArr x.1 0 ((fixedS u 4).map byteV),x.2) := by
  refine fn_of_W Tryd.func52 rfl Tryd.results52 Tryd.ntmps52 rfl ?_
  have e1 : u.fdiv (2 ^ (min 8 32)) = u.fdiv 256 := by rw [show (2 : Int) ^ (min 8 32) = 256 by decide]
  have e2 : u.fdiv (2 ^ (min 16 32)) = u.fdiv 65536 := by rw [show (2 : Int) ^ (min 16 32) = 65536 by decide]
  have e3 : u.fdiv (2 ^ (min 24 32)) = u.fdiv 16777216 := by rw [show (2 : Int) ^ (min 24 32) = 16777216 by decide]
  repeat ((first | refine qA rfl ?_|refine qB ?_|refine qC rfl ?_|refine qD ?_|refine qE ?_|refine qF ?_|refine qG ?_|refine qH ?_);try simp (maxSteps:=1000000)(disch:=(first|omega|(simp only [qI,qJ,qK]<;>omega)|exact qL _)) only [go_sem,↓reduceIte,n0,reduceCtorEq,n1,n2,n3,n4,n5,i0,i1,i2,i3,i4,i5,i6,i7,kbits,e1,e2,e3,u8_byte])
  have hbl := blk_lt hb
  have hb1 : blk (w.alloc (.cells #[byteV (b8 (u.fdiv 16777216)),byteV (b8 (u.fdiv 65536)),byteV (b8 (u.fdiv 256)),byteV (b8 u)] 5)) g = some xb := by rw [blk_alloc_old (by omega)];exact hb
  have hU1 : Upd (fun b => b = g) w (w.alloc (.cells #[byteV (b8 (u.fdiv 16777216)),byteV (b8 (u.fdiv 65536)),byteV (b8 (u.fdiv 256)),byteV (b8 u)] 5)) := Upd.alloc (Upd.refl _ _) _
  have hs1 : Src (w.alloc (.cells #[byteV (b8 (u.fdiv 16777216)),byteV (b8 (u.fdiv 65536)),byteV (b8 (u.fdiv 256)),byteV (b8 u)] 5)) 1 (.slice (some ⟨w.heap.size,0,none⟩) 4 4) 4 [byteV (b8 (u.fdiv 16777216)),byteV (b8 (u.fdiv 65536)),byteV (b8 (u.fdiv 256)),byteV (b8 u)] := Src.blk (fr := (0,0)) (T := 5) (blk_alloc_new rfl) rfl rfl
  refine wp_appendIn ap_24_24 (g := g) (n := 0) (m := 4) (cap := cap) (xb := xb) (news := [byteV (b8 (u.fdiv 16777216)),byteV (b8 (u.fdiv 65536)),byteV (b8 (u.fdiv 256)),byteV (b8 u)]) (by first | rfl | simp (maxSteps:=1000000)(disch:=(first|omega|(simp only [qI,qJ,qK]<;>omega)|exact qL _)) only [go_sem,↓reduceIte,n0,reduceCtorEq,n1,n2,n3,n4,n5,i0,i1,i2,i3,i4,i5,i6,i7]) (by first | rfl | simp (maxSteps:=1000000)(disch:=(first|omega|(simp only [qI,qJ,qK]<;>omega)|exact qL _)) only [go_sem,↓reduceIte,n0,reduceCtorEq,n1,n2,n3,n4,n5,i0,i1,i2,i3,i4,i5,i6,i7]) hb1 hs1 (by omega) (by simpa using hx) (by simpa using hth) ?_
  simp (maxSteps:=1000000)(disch:=(first|omega|(simp only [qI,qJ,qK]<;>omega)|exact qL _)) only [go_sem,↓reduceIte,n0,reduceCtorEq,n1,n2,n3,n4,n5,i0,i1,i2,i3,i4,i5,i6,i7]
  repeat ((first | refine qA rfl ?_|refine qB ?_|refine qC rfl ?_|refine qD ?_|refine qE ?_|refine qF ?_|refine qG ?_|refine qH ?_);try simp (maxSteps:=1000000)(disch:=(first|omega|(simp only [qI,qJ,qK]<;>omega)|exact qL _)) only [go_sem,↓reduceIte,n0,reduceCtorEq,n1,n2,n3,n4,n5,i0,i1,i2,i3,i4,i5,i6,i7])
  rw [fixedS_four]
  refine ⟨hU1.wr _ _ (.inr rfl),?_⟩
  rfl

theorem AppendInt32In_fn {g cap : Nat} {xb : Blk} (w : World) (hb : blk w g = some xb) (hc : 4 ≤ cap) (hx : 4 ≤ xb.1.size) (hth : xb.2.2.2 ≤ 0 ∨ 4 ≤ xb.2.2.1) (n : Int) :
    Fn Tryd.prog 46 #[.slice (some ⟨g,0,none⟩) 0 cap,.int .i32 n] w fun _ w' => Upd (fun b => b = g) w w' ∧ blk w' g = (blk w g).map fun x => (wrArr x.1 0 ((fixedS n 4).map byteV),x.2) := by
  refine fn_of_W Tryd.func46 rfl Tryd.results46 Tryd.ntmps46 rfl ?_
  repeat ((first | refine qA rfl ?_|refine qB ?_|refine qC rfl ?_|refine qD ?_|refine qE ?_|refine qF ?_|refine qG ?_|refine qH ?_);try simp (maxSteps:=1000000)(disch:=(first|omega|(simp only [qI,qJ,qK]<;>omega)|exact qL _)) only [go_sem,↓reduceIte,n0,reduceCtorEq,n1,n2,n3,n4,n5,i0,i1,i2,i3,i4,i5,i6,i7])
  have hw : IntKind.u32.wrap n = n % 4294967296 := by unfold IntKind.wrap;simp [IntKind.bits,IntKind.signed]
  rw [hw]
  refine (AppendUint32In_fn w hb hc hx hth (n % 4294967296) (by omega)).mono ?_
  rintro r w1 h
  repeat ((first | refine qA rfl ?_|refine qB ?_|refine qC rfl ?_|refine qD ?_|refine qE ?_|refine qF ?_|refine qG ?_|refine qH ?_);try simp (maxSteps:=1000000)(disch:=(first|omega|(simp only [qI,qJ,qK]<;>omega)|exact qL _)) only [go_sem,↓reduceIte,n0,reduceCtorEq,n1,n2,n3,n4,n5,i0,i1,i2,i3,i4,i5,i6,i7])
  rw [← fixed_mod n _ rfl];exact h

theorem zzFits4_fn (has : Bool) (s : List UInt8) (w : World) : Fn Tryd.prog 4 #[.agg #[.bool has,strV s]] w fun r w' => (∃ b,r = .bool b) ∧ Ext w w' := by
  refine fn_of_W Tryd.func4 rfl Tryd.results4 Tryd.ntmps4 rfl ?_
  have hE : Ext w (w.alloc (.cells #[.bool has,strV s] 23)) := Upd.alloc (Upd.refl _ _) _
  by_cases h : (2147483647 : Int) < (s.length : Int)
  · repeat ((first | refine qA rfl ?_|refine qB ?_|refine qC rfl ?_|refine qD ?_|refine qE ?_|refine qF ?_|refine qG ?_|refine qH ?_);try simp (maxSteps:=1000000)(disch:=(first|omega|(simp only [qI,qJ,qK]<;>omega)|exact qL _)) only [go_sem,↓reduceIte,n0,reduceCtorEq,n1,n2,n3,n4,n5,i0,i1,i2,i3,i4,i5,i6,i7,cells_strV,flat_strV,lenV_strV,h])
    all_goals exact ⟨⟨_,rfl⟩,hE⟩
  · repeat ((first | refine qA rfl ?_|refine qB ?_|refine qC rfl ?_|refine qD ?_|refine qE ?_|refine qF ?_|refine qG ?_|refine qH ?_);try simp (maxSteps:=1000000)(disch:=(first|omega|(simp only [qI,qJ,qK]<;>omega)|exact qL _)) only [go_sem,↓reduceIte,n0,reduceCtorEq,n1,n2,n3,n4,n5,i0,i1,i2,i3,i4,i5,i6,i7,cells_strV,flat_strV,lenV_strV,h])
    all_goals exact ⟨⟨_,rfl⟩,hE⟩

theorem NewReq0_fn (w : World) : Fn Tryd.prog 33 #[.slice none 0 0] w fun r w' => r = .pointer (some ⟨w.heap.size,0,none⟩) ∧ blk w' w.heap.size = some (#[.pointer none],94,(0,0)) ∧ Ext w w' := by
  refine fn_of_W Tryd.func33 rfl Tryd.results33 Tryd.ntmps33 rfl ?_
  repeat ((first | refine qA rfl ?_|refine qB ?_|refine qC rfl ?_|refine qD ?_|refine qE ?_|refine qF ?_|refine qG ?_|refine qH ?_);try simp (maxSteps:=1000000)(disch:=(first|omega|(simp only [qI,qJ,qK]<;>omega)|exact qL _)) only [go_sem,↓reduceIte,n0,reduceCtorEq,n1,n2,n3,n4,n5,i0,i1,i2,i3,i4,i5,i6,i7])
  refine W.loop (fun ρ w' => ρ 9 = .int .i64 0 ∧ ρ 8 = .int .i64 0 ∧ ρ 3 = .pointer (some ⟨w.heap.size,0,none⟩) ∧ w' = w.alloc (.cells #[.pointer none] 94)) (fun _ _ => 0) ?_ ?_
  · refine ⟨?_,?_,?_,rfl⟩ <;> (try simp (maxSteps:=1000000)(disch:=(first|omega|(simp only [qI,qJ,qK]<;>omega)|exact qL _)) only [go_sem,↓reduceIte,n0,reduceCtorEq,n1,n2,n3,n4,n5,i0,i1,i2,i3,i4,i5,i6,i7]) <;> (try rfl)
  · rintro ρ w5 ⟨h9,h8,h3,rfl⟩
    repeat ((first | refine qA rfl ?_|refine qB ?_|refine qC rfl ?_|refine qD ?_|refine qE ?_|refine qF ?_|refine qG ?_|refine qH ?_);try simp (maxSteps:=1000000)(disch:=(first|omega|(simp only [qI,qJ,qK]<;>omega)|exact qL _)) only [go_sem,↓reduceIte,n0,reduceCtorEq,n1,n2,n3,n4,n5,i0,i1,i2,i3,i4,i5,i6,i7,h9,h8,h3])
    first | exact ⟨blk_alloc_new rfl,Upd.alloc (Upd.refl _ _) _⟩ | exact Upd.alloc (Upd.refl _ _) _

theorem ClientID_fn (s : List UInt8) (w : World) : Fn Tryd.prog 34 #[strV s] w fun r w' => r = .iface 97 (.agg #[.func (.func 44) #[] #[.pointer (some ⟨w.heap.size,0,none⟩)]]) ∧ blk w' w.heap.size = some (#[strV s],9,(0,0)) ∧ Ext w w' := by
  refine fn_of_W Tryd.func34 rfl Tryd.results34 Tryd.ntmps34 rfl ?_
  repeat ((first | refine qA rfl ?_|refine qB ?_|refine qC rfl ?_|refine qD ?_|refine qE ?_|refine qF ?_|refine qG ?_|refine qH ?_);try simp (maxSteps:=1000000)(disch:=(first|omega|(simp only [qI,qJ,qK]<;>omega)|exact qL _)) only [go_sem,↓reduceIte,n0,reduceCtorEq,n1,n2,n3,n4,n5,i0,i1,i2,i3,i4,i5,i6,i7,cells_strV,flat_strV])
  first | exact ⟨blk_alloc_new rfl,Upd.alloc (Upd.refl _ _) _⟩ | exact Upd.alloc (Upd.refl _ _) _

theorem setID_fn {fp q : Nat} {c : Value} (w : World) (hb : blk w fp = some (#[c],94,(0,0))) : Fn Tryd.prog 44 #[.pointer (some ⟨fp,0,none⟩),.pointer (some ⟨q,0,none⟩)] w fun r w' => r = .tuple #[] ∧ w' = wr w fp 0 [.pointer (some ⟨q,0,none⟩)] := by
  refine fn_of_W Tryd.func44 rfl Tryd.results44 Tryd.ntmps44 rfl ?_
  repeat ((first | refine qA rfl ?_|refine qB ?_|refine qC rfl ?_|refine qD ?_|refine qE ?_|refine qF ?_|refine qG ?_|refine qH ?_);try simp (maxSteps:=1000000)(disch:=(first|omega|(simp only [qI,qJ,qK]<;>omega)|exact qL _)) only [go_sem,↓reduceIte,n0,reduceCtorEq,n1,n2,n3,n4,n5,i0,i1,i2,i3,i4,i5,i6,i7,hb])
  all_goals first | rfl | exact ⟨rfl,rfl⟩

theorem apply_fn {fp q : Nat} {c : Value} (w : World) (hb : blk w fp = some (#[c],94,(0,0))) : Fn Tryd.prog 75 #[.agg #[.func (.func 44) #[] #[.pointer (some ⟨q,0,none⟩)]],.pointer (some ⟨fp,0,none⟩)] w fun _ w' => blk w' fp = some (#[.pointer (some ⟨q,0,none⟩)],94,(0,0)) ∧ Upd (fun b => b = fp) w w' := by
  have hl := blk_lt hb
  refine fn_of_W Tryd.func75 rfl Tryd.results75 Tryd.ntmps75 rfl ?_
  repeat ((first | refine qA rfl ?_|refine qB ?_|refine qC rfl ?_|refine qD ?_|refine qE ?_|refine qF ?_|refine qG ?_|refine qH ?_);try simp (maxSteps:=1000000)(disch:=(first|omega|(simp only [qI,qJ,qK]<;>omega)|exact qL _)) only [go_sem,↓reduceIte,n0,reduceCtorEq,n1,n2,n3,n4,n5,i0,i1,i2,i3,i4,i5,i6,i7])
  have hE : Upd (fun b => b = fp) w (w.alloc (.cells #[.func (.func 44) #[] #[.pointer (some ⟨q,0,none⟩)]] 97)) := Upd.alloc (Upd.refl _ _) _
  have hb1 : blk (w.alloc (.cells #[.func (.func 44) #[] #[.pointer (some ⟨q,0,none⟩)]] 97)) fp = some (#[c],94,(0,0)) := by rw [blk_alloc_old (by omega)];exact hb
  refine (setID_fn _ hb1).mono ?_
  rintro r w2 ⟨rfl,rfl⟩
  repeat ((first | refine qA rfl ?_|refine qB ?_|refine qC rfl ?_|refine qD ?_|refine qE ?_|refine qF ?_|refine qG ?_|refine qH ?_);try simp (maxSteps:=1000000)(disch:=(first|omega|(simp only [qI,qJ,qK]<;>omega)|exact qL _)) only [go_sem,↓reduceIte,n0,reduceCtorEq,n1,n2,n3,n4,n5,i0,i1,i2,i3,i4,i5,i6,i7])
  refine ⟨by rw [blk_wr_eq,hb1];rfl,hE.wr _ _ (.inr rfl)⟩

theorem optApply : methodP Tryd.prog 97 "pub-mailsack/pub/kmsg.apply" = some (75,false) := by kernel_rfl
theorem optRecv : recvOk Tryd.prog 97 false = true := by kernel_rfl
theorem optCall : callable Tryd.prog 75 = true := by kernel_rfl

theorem NewReq1_fn {q b : Nat} (w : World) (hb : blk w b = some (#[.iface 97 (.agg #[.func (.func 44) #[] #[.pointer (some ⟨q,0,none⟩)]])],78,(0,0))) :
    Fn Tryd.prog 33 #[.slice (some ⟨b,0,none⟩) 1 1] w fun r w' => r = .pointer (some ⟨w.heap.size,0,none⟩) ∧ blk w' w.heap.size = some (#[.pointer (some ⟨q,0,none⟩)],94,(0,0)) ∧ Ext w w' := by
  have hl := blk_lt hb
  refine fn_of_W Tryd.func33 rfl Tryd.results33 Tryd.ntmps33 rfl ?_
  repeat ((first | refine qA rfl ?_|refine qB ?_|refine qC rfl ?_|refine qD ?_|refine qE ?_|refine qF ?_|refine qG ?_|refine qH ?_);try simp (maxSteps:=1000000)(disch:=(first|omega|(simp only [qI,qJ,qK]<;>omega)|exact qL _)) only [go_sem,↓reduceIte,n0,reduceCtorEq,n1,n2,n3,n4,n5,i0,i1,i2,i3,i4,i5,i6,i7])
  have hE1 : Ext w (w.alloc (.cells #[.pointer none] 94)) := Upd.alloc (Upd.refl _ _) _
  have hb1 := hE1.blk_some hb id
  have hn1 : blk (w.alloc (.cells #[.pointer none] 94)) w.heap.size = some (#[.pointer none],94,(0,0)) := blk_alloc_new rfl
  generalize w.alloc (.cells #[.pointer none] 94) = w1 at *
  refine W.loop (fun ρ w' => ρ 8 = .int .i64 1 ∧ ρ 7 = .slice (some ⟨b,0,none⟩) 1 1 ∧ ρ 3 = .pointer (some ⟨w.heap.size,0,none⟩) ∧ ((ρ 9 = .int .i64 0 ∧ w' = w1) ∨ (ρ 9 = .int .i64 1 ∧ blk w' w.heap.size = some (#[.pointer (some ⟨q,0,none⟩)],94,(0,0)) ∧ Ext w w'))) (fun ρ _ => 1 - (RowKit.intOf (ρ 9)).toNat) ?_ ?_
  · refine ⟨?_,?_,?_,.inl ⟨?_,rfl⟩⟩ <;> (try simp (maxSteps:=1000000)(disch:=(first|omega|(simp only [qI,qJ,qK]<;>omega)|exact qL _)) only [go_sem,↓reduceIte,n0,reduceCtorEq,n1,n2,n3,n4,n5,i0,i1,i2,i3,i4,i5,i6,i7]) <;> (try rfl)
  · rintro ρ w5 ⟨h8,h7,h3,⟨h9,rfl⟩ | ⟨h9,hn5,hE5⟩⟩
    · repeat ((first | refine qA rfl ?_|refine qB ?_|refine qC rfl ?_|refine qD ?_|refine qE ?_|refine qF ?_|refine qG ?_|refine qH ?_);try simp (maxSteps:=1000000)(disch:=(first|omega|(simp only [qI,qJ,qK]<;>omega)|exact qL _)) only [go_sem,↓reduceIte,n0,reduceCtorEq,n1,n2,n3,n4,n5,i0,i1,i2,i3,i4,i5,i6,i7,h9,h8,h7,h3,hb1,↓step_invoke])
      refine wp_invoke (T := 97) (v := .agg #[.func (.func 44) #[] #[.pointer (some ⟨q,0,none⟩)]]) (by simp (maxSteps:=1000000)(disch:=(first|omega|(simp only [qI,qJ,qK]<;>omega)|exact qL _)) only [go_sem,↓reduceIte,n0,reduceCtorEq,n1,n2,n3,n4,n5,i0,i1,i2,i3,i4,i5,i6,i7]) optApply optRecv optCall ?_
      try simp (maxSteps:=1000000)(disch:=(first|omega|(simp only [qI,qJ,qK]<;>omega)|exact qL _)) only [go_sem,↓reduceIte,n0,reduceCtorEq,n1,n2,n3,n4,n5,i0,i1,i2,i3,i4,i5,i6,i7]
      refine (apply_fn w5 hn1).mono ?_
      rintro r w6 ⟨hn6,hU6⟩
      try simp (maxSteps:=1000000)(disch:=(first|omega|(simp only [qI,qJ,qK]<;>omega)|exact qL _)) only [go_sem,↓reduceIte,n0,reduceCtorEq,n1,n2,n3,n4,n5,i0,i1,i2,i3,i4,i5,i6,i7]
      repeat ((first | refine qA rfl ?_|refine qB ?_|refine qC rfl ?_|refine qD ?_|refine qE ?_|refine qF ?_|refine qG ?_|refine qH ?_);try simp (maxSteps:=1000000)(disch:=(first|omega|(simp only [qI,qJ,qK]<;>omega)|exact qL _)) only [go_sem,↓reduceIte,n0,reduceCtorEq,n1,n2,n3,n4,n5,i0,i1,i2,i3,i4,i5,i6,i7,h9])
      refine ⟨⟨h8,h7,h3,.inr (by first | exact ⟨hn6,hE1.more hU6 fun b hb h => by omega⟩ | exact ⟨rfl,hn6,hE1.more hU6 fun b hb h => by omega⟩)⟩,?_⟩
      simp only [RowKit.intOf];omega
    · repeat ((first | refine qA rfl ?_|refine qB ?_|refine qC rfl ?_|refine qD ?_|refine qE ?_|refine qF ?_|refine qG ?_|refine qH ?_);try simp (maxSteps:=1000000)(disch:=(first|omega|(simp only [qI,qJ,qK]<;>omega)|exact qL _)) only [go_sem,↓reduceIte,n0,reduceCtorEq,n1,n2,n3,n4,n5,i0,i1,i2,i3,i4,i5,i6,i7,h9,h8,h3])
      exact ⟨hn5,hE5⟩
end Ms

namespace Ms
open Go

def wrapN (k n : Int) : Int := if k = 1 then IntKind.i8.wrap n else if k = 2 then IntKind.i16.wrap n else if k = 3 then IntKind.i32.wrap n else if k = 5 then IntKind.u16.wrap n else n
def sortT (u : List TagD) : List TagD := u.mergeSort fun a b => decide (a.1 ≤ b.1)
def tl1 (tp : List Fld → Tree → Tree) (k : Int) (sub : List Fld) (x : Tree) : Tree :=
  if k = 0 then .num (if x.n % 2 = 1 then 1 else 0)
  else if k = 7 then .oct false (uuidS x.s)
  else if k = 8 then .oct false x.s
  else if k = 9 then .oct x.null (if x.null = true then [] else x.s)
  else if k = 10 then tp sub x
  else .num (wrapN k x.n)
def tlF (tp : List Fld → Tree → Tree) (f : Fld) (x : Tree) : Tree :=
  if f.kind = 8 ∧ 0 ≤ f.null then .oct x.null (if x.null = true then [] else x.s)
  else if f.kind = 11 then .mk 0 [] x.null ((if x.null = true then [] else x.l).map (tl1 tp f.of f.sub)) []
  else tl1 tp f.kind f.sub x
def tlL (tp : List Fld → Tree → Tree) (t : Tree) : List Fld → Nat → List Tree
  | [],_ => []
  | f :: fs,i => tlF tp f (t.at i) :: tlL tp t fs (i + 1)
def tlP : Nat → List Fld → Tree → Tree
  | 0,_,_ => .zero
  | d + 1,fs,t => .mk 0 [] false (tlL (tlP d) t fs 0) (sortT t.u)

def Good1 (G : List Fld → Tree → Prop) (k : Int) (sub : List Fld) (x : Tree) : Prop := (k = 4 → IntKind.i64.wrap x.n = x.n) ∧ x.s.length ≤ 32767 ∧ (k = 10 → G sub x)
def GoodF (G : List Fld → Tree → Prop) (f : Fld) (x : Tree) : Prop := if f.kind = 11 then x.l.length ≤ 32767 ∧ ∀ y ∈ x.l,Good1 G f.of f.sub y else Good1 G f.kind f.sub x
def GoodL (G : List Fld → Tree → Prop) (t : Tree) : List Fld → Nat → Prop
  | [],_ => True
  | f :: fs,i => GoodF G f (t.at i) ∧ GoodL G t fs (i + 1)
def GoodU (u : List TagD) : Prop := u.length ≤ 32767 ∧ (u.map (·.1)).Nodup ∧ ∀ y ∈ u,y.2.length ≤ 32767
def GoodP : Nat → List Fld → Tree → Prop
  | 0,_,_ => True
  | d + 1,fs,t => GoodL (GoodP d) t fs 0 ∧ GoodU t.u
theorem GoodF.one {G : List Fld → Tree → Prop} {f : Fld} {x : Tree} (h : GoodF G f x) (hk : f.kind ≠ 11) : Good1 G f.kind f.sub x := by unfold GoodF at h;rw [if_neg hk] at h;exact h
theorem GoodF.list {G : List Fld → Tree → Prop} {f : Fld} {x : Tree} (h : GoodF G f x) (hk : f.kind = 11) : x.l.length ≤ 32767 ∧ ∀ y ∈ x.l,Good1 G f.of f.sub y := by unfold GoodF at h;rw [if_pos hk] at h;exact h
theorem GoodF.listL {G : List Fld → Tree → Prop} {f : Fld} {x : Tree} (h : GoodF G f x) (hk : f.kind = 11) {L : List Tree} (hL : L = if x.null = true then [] else x.l) : L.length ≤ 32767 ∧ ∀ y ∈ L,Good1 G f.of f.sub y := by
  subst hL
  split
  · exact ⟨by simp,fun y hy => by cases hy⟩
  · exact h.list hk
theorem RepF_listT {R : List Fld → Rel Tree} {S : List Fld → Nat} {f : Fld} {ok : Blocks} {w : World} {t : Tree} {c : List Value} (h : f.kind = 11) (hr : RepF R S f ok w t c) :
    ∃ a k L,c = [.slice a L.length k] ∧ L = (if t.null = true then [] else t.l) ∧ a.isNone = t.null ∧ SlR ok w (sz1 S f.of f.sub) (Rep1 R f.of f.sub ok w) (.slice a L.length k) L := by
  unfold RepF at hr
  rw [if_neg (by omega),if_pos h] at hr
  obtain ⟨v,rfl,hr⟩ := hr
  by_cases ht : t.null = true
  · rw [if_pos ht] at hr
    subst hr
    exact ⟨none,0,[],rfl,by rw [if_pos ht],by rw [ht];rfl,[],⟨none,0,rfl,Nat.le_refl _,by simp,.inl rfl⟩,rfl,fun i h => by simp at h⟩
  · rw [if_neg ht] at hr
    obtain ⟨hs,a,n,k,rfl⟩ := hr
    obtain ⟨a',k',e,_⟩ := SlR.shape hs
    cases e
    exact ⟨_,_,t.l,rfl,by rw [if_neg ht],by cases h : t.null with | true => exact absurd h ht | false => rfl,hs⟩
theorem wrap_wider (k : IntKind) (hk : k = .i8 ∨ k = .i16 ∨ k = .i32 ∨ k = .u16) (n : Int) : IntKind.i64.wrap (k.wrap n) = k.wrap n := by
  have : -9223372036854775808 ≤ k.wrap n ∧ k.wrap n < 9223372036854775808 := by
    rcases hk with h | h | h | h <;> subst h <;> (unfold IntKind.wrap;simp [IntKind.bits,IntKind.signed]) <;> (try split) <;> omega
  exact i64_wrap (by omega)
theorem tl8 (n : Int) : IntKind.i64.wrap (IntKind.i8.wrap n) = IntKind.i8.wrap n := wrap_wider _ (by simp) n
theorem tl16 (n : Int) : IntKind.i64.wrap (IntKind.i16.wrap n) = IntKind.i16.wrap n := wrap_wider _ (by simp) n
theorem tl32 (n : Int) : IntKind.i64.wrap (IntKind.i32.wrap n) = IntKind.i32.wrap n := wrap_wider _ (by simp) n
theorem tlu16 (n : Int) : IntKind.i64.wrap (IntKind.u16.wrap n) = IntKind.u16.wrap n := wrap_wider _ (by simp) n

theorem bytesRow_list (s : List UInt8) (cap : Nat) : bytesRow ⟨s.toArray⟩ cap = (s.map byteV ++ List.replicate (cap - s.length) (Value.int .u8 0)).toArray := by
  apply Array.ext'
  simp [bytesRow,ByteArray.size]
  exact fun _ _ => rfl
section
variable {P : Program}
theorem wp_octets {S T E : TypeId} (hs : P.underlying S = some .string) (hd : P.underlying T = some (.slice E)) (he : P.underlying E = some (.int .u8)) {s : List UInt8}
    {w : World} {ρ : Regs} {d : Option Nat} {x : Operand} {type : TypeId} {pos : String} {after : Array Edge} {guard : Option (Nat × Bool)} {K : Regs → World → Prop}
    (hx : ev ρ x = strV s) (hk : ∀ a k w',BytesV (fun b => w.heap.size ≤ b) w' (.slice (some a) s.length k) s → Ext w w' → K (put ρ d (.slice (some a) s.length k)) w') :
    rawK P { dst := d,op := .convert S T x,type := type,pos := pos,after := after,guard := guard } ρ w K := by
  refine ⟨?_⟩
  have hr := run_bytes_of_string w S T E ⟨s.toArray⟩ hs hd he
  have hsz : (⟨s.toArray⟩ : ByteArray).size = s.length := by simp [ByteArray.size]
  rw [hsz,bytesRow_list] at hr
  have hcap : s.length ≤ grownCap w s.length 0 E := by unfold grownCap;simp only [Question.cut];omega
  generalize grownCap w s.length 0 E = cap at *
  have : (execOp (ev ρ) { dst := d,op := .convert S T x,type := type,pos := pos,after := after,guard := guard }).run P w = .ok (.value (.slice (some ⟨w.heap.size,0,none⟩) s.length cap)) (w.drew.alloc (.cells (s.map byteV ++ List.replicate (cap - s.length) (Value.int .u8 0)).toArray E ((s.map byteV ++ List.replicate (cap - s.length) (Value.int .u8 0)).toArray.size,(s.map byteV ++ List.replicate (cap - s.length) (Value.int .u8 0)).toArray.size + 1))) := by
    have hr' : (convert S T (strV s)).run P w = _ := hr
    simp only [execOp,hx,Sem.run_bind,hr',Result.andThen_ok,Sem.run_pure]
  rw [this]
  refine hk _ _ _ ?_ ((Upd.refl _ _).drew.alloc _)
  refine ⟨_,cap,by rw [List.length_map],by rw [List.length_map];exact hcap,fun cs hm => ?_,.inr ⟨_,rfl,rfl,Nat.le_refl _,_,blk_alloc_new rfl,fun i hi => ?_⟩⟩
  · obtain ⟨b,_,rfl⟩ := List.mem_map.1 hm;rfl
  · rw [bytes_flat] at hi ⊢
    simp only [Nat.zero_add,List.getElem?_toArray]
    exact List.getElem?_append_left hi
end
theorem bytes_at {w : World} {b o : Nat} {x : Blk} {n : Nat} {s : List UInt8} (hb : blk w b = some x) (hl : s.length = n) (h : ∀ i,i < n → x.1[o + i]? = (s.map byteV)[i]?) : BytesV AnyB w (.slice (some ⟨b,o,none⟩) n n) s := by
  subst hl
  refine ⟨_,s.length,by rw [List.length_map],by rw [List.length_map];exact Nat.le_refl _,fun cs hm => ?_,.inr ⟨_,rfl,rfl,trivial,x,hb,fun i hi => ?_⟩⟩
  · obtain ⟨b,_,rfl⟩ := List.mem_map.1 hm;rfl
  · rw [bytes_flat] at hi ⊢
    exact h i (by simpa using hi)
theorem Own.setlast {B : Nat} {w : World} {E : TypeId} {size : Nat} {g : Nat} {n q : Nat} {xs z cs : List Value} (h : Own B w E size (.slice (some ⟨g,0,none⟩) (n + 1) q) (n + 1) (xs ++ z)) (hz : z.length = size) (hc : cs.length = size) : Own B (wr w g (n * size) cs) E size (.slice (some ⟨g,0,none⟩) (n + 1) q) (n + 1) (xs ++ cs) := by
  obtain ⟨h1,h2⟩ := h
  have hl : xs.length = n * size := by
    simp only [List.length_append,hz,Nat.succ_mul] at h1;omega
  refine ⟨by simp only [List.length_append,hc,hl,Nat.succ_mul],?_⟩
  rcases h2 with ⟨h,_⟩ | ⟨g',cap,rest,fr,h3,h4,h5,h6,h7,h8⟩
  · cases h
  · cases h3
    refine .inr ⟨g,_,rest,fr,rfl,h4,?_,by simp only [List.length_append,hc,hz] at h6 ⊢;exact h6,h7,h8⟩
    rw [List.append_assoc] at h5 ⊢
    have := el_blk0 (vs := cs) h5 hl (by omega)
    rw [this]
    congr 2
    have e1 := el_sets (A := []) (B := []) cs z 0 (by omega)
    simp only [List.nil_append,List.append_nil,List.length_nil,Nat.zero_add] at e1
    have e2 := wrArr_full (c := z.toArray) (vs := cs) (by rw [List.size_toArray];omega)
    have e3 : setL z 0 cs = cs := congrArg Array.toList (e1.symm.trans e2)
    rw [e3]
theorem sortT_perm (u : List TagD) : (sortT u).Perm u := List.mergeSort_perm _ _
theorem sortT_le (u : List TagD) : (sortT u).Pairwise fun a b => a.1 ≤ b.1 := by
  have := List.pairwise_mergeSort (le := fun a b : TagD => decide (a.1 ≤ b.1)) (fun a b c h1 h2 => by simp at h1 h2 ⊢;omega) (fun a b => by simp;omega) u
  exact this.imp fun h => by simpa using h
theorem sortT_lt {u : List TagD} (h : (u.map (·.1)).Nodup) : ((sortT u).map (·.1)).Pairwise (· < ·) := by
  have h1 : ((sortT u).map (·.1)).Nodup := ((sortT_perm u).map _).nodup_iff.2 h
  have h2 : ((sortT u).map (·.1)).Pairwise (· ≤ ·) := List.pairwise_map.2 (sortT_le u)
  have h3 := List.nodup_iff_pairwise_ne.1 h1
  exact (h2.and h3).imp fun h => by omega
theorem wr_comm {w : World} {a b o p : Nat} {vs us : List Value} (h : a ≠ b) : wr (wr w a o vs) b p us = wr (wr w b p us) a o vs := by
  simp only [wr]
  congr 1
  apply Array.ext_getElem?
  intro i
  simp only [Array.getElem?_modify]
  by_cases h1 : b = i
  · have h2 : ¬ a = i := by omega
    simp [h1,h2]
  · simp [h1]
def LoopL (l : List (Nat × Value)) (ri : Nat) (I : Nat → World → Prop) (ρ : Regs) (w : World) : Prop := Holds l ρ ∧ ∃ j : Nat,ρ ri = .int .i64 j ∧ I j w
def TreeRg (ok : Blocks) (w : World) (w' : World) (r : Value) (t : Tree) : Prop := ∃ cs,r = .agg cs.toArray ∧ TreeC (okN ok w.heap.size) w' t cs
theorem treesN (ok : Blocks) (w : World) : TreesV ok w (.slice none 0 0) [] := ⟨[],⟨none,0,rfl,Nat.le_refl _,by simp,.inl rfl⟩,rfl,fun i h => by simp at h⟩
theorem tagsN (ok : Blocks) (w : World) : TagsV ok w (.slice none 0 0) [] := ⟨[],⟨none,0,rfl,Nat.le_refl _,by simp,.inl rfl⟩,rfl,fun i h => by simp at h⟩
theorem W.seqO {P : Program} {n id : Nat} {ops : Array Oper} {y : Code} {Q : Exit → Regs → World → Prop} {ρ : Regs} {w : World} (k : Nat) (hf : fitsL n ops.toList = true)
    (h : ∀ O DD,O = ops → DD = ops.toList.drop k → WPsq P O (ops.toList.take k ++ DD) (fun ρ w => W P n y Q ρ w) ρ w) : W P n (.seq (.region id ops false) y) Q ρ w := by
  have := h ops _ rfl rfl
  rw [List.take_append_drop] at this
  exact W.seqR hf this
end Ms

