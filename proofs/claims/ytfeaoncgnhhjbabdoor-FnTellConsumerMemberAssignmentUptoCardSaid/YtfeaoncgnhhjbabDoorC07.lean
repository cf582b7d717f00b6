/- A part of the proof: see the last text. -/
import Derived.Laws.IdiomStrings
import Derived.Test.YtfeaoncgnhhjbabDoorC05
import Derived.Test.YtfeaoncgnhhjbabDoorC06
set_option linter.unusedSimpArgs false
set_option linter.unusedVariables false
namespace Ms
open Go Go.ChangeMaps
section
variable {P : Program} {ρ : Regs} {w : World} {K : Regs → World → Prop} {d : Option Nat} {type : TypeId} {pos : String} {after : Array Edge} {guard : Option (Nat × Bool)}
end
theorem tagPut_new {u : List TagD} {y : TagD} (h : ∀ z ∈ u,z.1 ≠ y.1) : tagPut u y = u ++ [y] := by
  unfold tagPut
  rw [if_neg]
  simp only [List.any_eq_true,beq_iff_eq,not_exists,not_and]
  exact h
end Ms

namespace Ms
open Go

def zs (z : List Value) (n : Nat) : List Value := (List.replicate n z).flatten
theorem zs_succ (z : List Value) (n : Nat) : zs z (n + 1) = z ++ zs z n := by simp [zs,List.replicate_succ]
theorem zs_len (z : List Value) (n : Nat) : (zs z n).length = n * z.length := by simp [zs]
theorem zs_get (z : List Value) : ∀ (n k : Nat),k < n * z.length → (zs z n)[k]? = z[k % z.length]?
  | 0,k,h => by simp at h
  | n + 1,k,h => by
    rw [zs_succ]
    have hz : 0 < z.length := by
      rcases Nat.eq_zero_or_pos z.length with h0 | h0
      · rw [h0] at h;simp at h
      · exact h0
    by_cases hk : k < z.length
    · rw [List.getElem?_append_left hk,Nat.mod_eq_of_lt hk]
    · rw [List.getElem?_append_right (by omega),zs_get z n (k - z.length) (by rw [Nat.succ_mul] at h;omega),← Nat.mod_eq_sub_mod (by omega)]
theorem zeroCells_zs (z : Array Value) (n : Nat) : (Builtin.zeroCells z n).toList = zs z.toList n := by
  apply List.ext_getElem?
  intro k
  by_cases hk : k < n * z.size
  · rw [zs_get _ _ _ (by simpa using hk)]
    have hz : 0 < z.size := by
      rcases Nat.eq_zero_or_pos z.size with h0 | h0
      · rw [h0] at hk;simp at hk
      · exact h0
    have hm := Nat.mod_lt k hz
    simp only [Builtin.zeroCells,Array.toList_map,List.getElem?_map,Array.length_toList]
    rw [Array.getElem?_toList,Array.getElem?_eq_getElem (by simpa using hk)]
    simp only [Array.getElem_range,Option.map_some]
    rw [getElem!_pos z (k % z.size) hm,Array.getElem?_toList,Array.getElem?_eq_getElem hm]
  · rw [List.getElem?_eq_none (by simp [Builtin.zeroCells];omega),List.getElem?_eq_none (by rw [zs_len];simpa using hk)]
section
variable {P : Program}
theorem wp_appendZ {T X E : TypeId} {size bytes : Nat} {zc : List Value} {kx : IntKind} (hT : P.underlying T = some (.slice E)) (hX : P.underlying X = some (.int kx)) (hi : (P.info? E).map (fun i => (i.size,i.bytes,i.zero.map (·.cells))) = some (size,bytes,some zc.toArray)) (hsz : 0 < size)
    {w : World} {ρ : Regs} {d : Option Nat} {x y : Operand} {type : TypeId} {pos : String} {after : Array Edge} {guard : Option (Nat × Bool)} {K : Regs → World → Prop} {a : Option Addr} {m : Nat}
    (hx : ev ρ x = .slice a 0 0) (hy : ev ρ y = .int kx m) (h0 : 0 < m) (hm : m < 2147483648) (hb : bytes ≤ 16384)
    (hk : ∀ q rest,m ≤ q → K (put ρ d (.slice (some ⟨w.heap.size,0,none⟩) m q)) (w.drew.alloc (.cells (zs zc m ++ rest).toArray E))) :
    rawK P { dst := d,op := .call { callee := .builtin .append,args := #[x,y],argTypes := #[T,X] },type := type,pos := pos,after := after,guard := guard } ρ w K := by
  refine ⟨?_⟩
  obtain ⟨ei,hi1,hi2⟩ := Option.map_eq_some_iff.1 hi
  simp only [Prod.mk.injEq] at hi2
  obtain ⟨hs,hby,hz⟩ := hi2
  obtain ⟨z,hz1,hz2⟩ := Option.map_eq_some_iff.1 hz
  have hw : IntKind.i64.wrap (m : Int) = m := i64_wrap (by omega)
  have hmb : (m : Int) * (ei.bytes : Int) ≤ 2 ^ 48 := by
    have : m * ei.bytes ≤ 2147483648 * 16384 := Nat.mul_le_mul (by omega) (by omega)
    have e : ((m * ei.bytes : Nat) : Int) = (m : Int) * (ei.bytes : Int) := Int.natCast_mul _ _
    rw [← e]
    have : ((m * ei.bytes : Nat) : Int) ≤ ((2147483648 * 16384 : Nat) : Int) := by exact_mod_cast this
    omega
  have hnx : Builtin.nextslicecap m 0 * ei.bytes ≤ 2 ^ 48 := by
    have h1 := nextslicecap_le (need := m) (old := 0) h0
    have : Builtin.nextslicecap m 0 * ei.bytes ≤ (2 * 2147483648 + 512) * 16384 := Nat.mul_le_mul (by omega) (by omega)
    omega
  have hne : ¬ (m * ei.size = 0) := by
    rw [hs]
    exact Nat.ne_of_gt (Nat.mul_pos h0 hsz)
  obtain ⟨q,hq1,hq2⟩ : ∃ q,m ≤ q ∧ (Builtin.append_ #[T,X] type #[.slice a 0 0,.int kx m]).run P w = .ok (.slice (some ⟨w.heap.size,0,none⟩) m q) (w.drew.alloc (.cells (zs zc m ++ zs zc (q - m)).toArray E)) := by
    have hfc : ∀ w : World,(Builtin.firstCells ei.size 0 (.slice a 0 0)).run P w = .ok #[] w := by
      intro w
      cases a with
      | none => rfl
      | some a => simp only [Builtin.firstCells,Nat.zero_mul,loadCells];rfl
    have hzz : ∀ n,Builtin.zeroCells z.cells n = (zs zc n).toArray := fun n => by
      apply Array.ext'
      rw [zeroCells_zs,hz2]
    refine ⟨(Question.appendCap (0 + m) 0 E).cut (w.tape w.drawn (Question.appendCap (0 + m) 0 E)),by simp only [Question.cut];omega,?_⟩
    generalize hq : (Question.appendCap (0 + m) 0 E).cut (w.tape w.drawn (Question.appendCap (0 + m) 0 E)) = q
    have hask : (askRoom (q * ei.bytes)).run P w.drew = .ok () w.drew := by
      unfold askRoom;split <;> rfl
    simp only [Builtin.append_,List.getElem?_toArray,List.getElem?_cons_zero,List.getElem?_cons_succ,Sem.run_bind,run_underlying hT,Result.andThen_ok,run_sizeOf hi1,run_underlying hX,Sem.run_pure,if_true,asInt,asIntOf,hw,run_typeInfo hi1]
    rw [if_neg (by omega)]
    simp only [Sem.run_bind,Sem.run_pure,Result.andThen_ok,run_typeInfo hi1]
    rw [if_neg (by omega)]
    simp only [Sem.run_bind,Sem.run_pure,Result.andThen_ok,Int.toNat_natCast]
    rw [if_neg (show ¬ 0 + m ≤ 0 by omega)]
    simp only [Sem.run_bind,run_typeInfo hi1,Result.andThen_ok]
    rw [if_neg (by simp [IntKind.max,IntKind.signed,IntKind.bits];omega)]
    simp only [Sem.run_bind,run_typeInfo hi1,Result.andThen_ok,Sem.run_pure]
    rw [if_neg (by rw [Nat.zero_add];omega)]
    simp only [Sem.run_bind,Sem.run_pure,Result.andThen_ok,choose]
    rw [run_drew rfl,hq]
    simp only [Sem.run_pure',Sem.run_bind,run_typeInfo hi1,Sem.run_pure,Result.andThen_ok,hask,hfc,Bool.not_true,Bool.false_eq_true,if_false,if_neg hne,run_zero hi1 hz1,newRow,newObj,Sem.run]
    rw [hzz,hzz,Nat.zero_add]
    simp
    rfl
  have : (execOp (ev ρ) { dst := d,op := .call { callee := .builtin .append,args := #[x,y],argTypes := #[T,X] },type := type,pos := pos,after := after,guard := guard }).run P w = .ok (.value (.slice (some ⟨w.heap.size,0,none⟩) m q)) (w.drew.alloc (.cells (zs zc m ++ zs zc (q - m)).toArray E)) := by
    simp only [execOp,resolve,Sem.run_bind,Sem.run_pure,Result.andThen_ok,invoke,builtin,List.map_toArray,List.map_cons,List.map_nil,hx,hy,hq2]
  rw [this]
  exact hk q _ hq1
end

theorem el_get {A cs B : List Value} {o : Nat} (ho : o < cs.length) : ((A ++ (cs ++ B)).toArray)[A.length + o]? = cs[o]? := by
  rw [List.getElem?_toArray,List.getElem?_append_right (by omega),Nat.add_sub_cancel_left,List.getElem?_append_left ho]
theorem el_set {A cs B : List Value} {o : Nat} {v : Value} (ho : o < cs.length) : ((A ++ (cs ++ B)).toArray).setIfInBounds (A.length + o) v = (A ++ (cs.set o v ++ B)).toArray := by
  rw [List.setIfInBounds_toArray,List.set_append_right _ _ (by omega),Nat.add_sub_cancel_left,List.set_append_left _ _ ho]

def exitRQ (i : Nat) (J Qr : Regs → World → Prop) : Exit → Regs → World → Prop := fun e ρ w => (e = .exit i ∧ J ρ w) ∨ (e = .ret ∧ Qr ρ w)
theorem exitRQ_exit (i : Nat) (J Qr : Regs → World → Prop) (ρ : Regs) (w : World) : exitRQ i J Qr (.exit i) ρ w = J ρ w := by simp [exitRQ]
theorem exitRQ_ret (i : Nat) (J Qr : Regs → World → Prop) (ρ : Regs) (w : World) : exitRQ i J Qr .ret ρ w = Qr ρ w := by simp [exitRQ]
theorem W.exitRJ {P : Program} {n : Nat} {c : Code} {Q : Exit → Regs → World → Prop} {ρ : Regs} {w : World} (i : Nat) (J : Regs → World → Prop) (h : W P n c (exitRQ i J (Q .ret)) ρ w) (hq : ∀ ρ w,J ρ w → Q (.exit i) ρ w) : W P n c Q ρ w :=
  h.mono fun e ρ w he => by
    rcases he with ⟨rfl,hj⟩ | ⟨rfl,hj⟩
    · exact hq ρ w hj
    · exact hj

def ReadQ (T : TypeId) (ok : Blocks) (ver : Int) (d : Nat) (fs : List Fld) (vb : Nat) (w : World) (fin : Tree × St) (ev : Value) (r : Value) (w' : World) : Prop :=
  (fin.2 = none → r = ev) ∧ (fin.2 ≠ none → r = .nilIface ∧ ∃ cells,blk w' vb = some ((.int .i16 ver :: cells).toArray,T,(0,0)) ∧ RepS true d fs (okN ok w.heap.size) w' fin.1 cells) ∧ Upd (fun b => b = vb) w w'
theorem ReadQ.bad {T : TypeId} {ok : Blocks} {ver : Int} {d : Nat} {fs : List Fld} {vb : Nat} {w : World} {fin : Tree × St} {ev : Value} {w' : World} (h : fin.2 = none) (hu : Upd (fun b => b = vb) w w') : ReadQ T ok ver d fs vb w fin ev ev w' :=
  ⟨fun _ => rfl,fun h' => absurd h h',hu⟩

def setL (cs : List Value) (o : Nat) : List Value → List Value
  | [] => cs
  | v :: vs => setL (cs.set o v) (o + 1) vs
theorem el_sets {A B : List Value} : ∀ (vs cs : List Value) (o : Nat),o + vs.length ≤ cs.length → wrArr ((A ++ (cs ++ B)).toArray) (A.length + o) vs = (A ++ (setL cs o vs ++ B)).toArray
  | [],cs,o,_ => rfl
  | v :: vs,cs,o,h => by
    simp only [List.length_cons] at h
    rw [wrArr,el_set (cs := cs) (by omega),Nat.add_assoc,el_sets vs (cs.set o v) (o + 1) (by rw [List.length_set];omega),setL]
theorem el_blk {w : World} {R k o : Nat} {A cs B vs : List Value} {E : TypeId} {fr : Nat × Nat} (hb : blk w R = some ((A ++ (cs ++ B)).toArray,E,fr)) (hA : A.length = k) (h : o + vs.length ≤ cs.length) : blk (wr w R (k + o) vs) R = some ((A ++ (setL cs o vs ++ B)).toArray,E,fr) := by
  subst hA
  rw [blk_wr_eq,hb,Option.map_some]
  simp only [el_sets vs cs o h]
theorem el_blk0 {w : World} {R k : Nat} {A cs B vs : List Value} {E : TypeId} {fr : Nat × Nat} (hb : blk w R = some ((A ++ (cs ++ B)).toArray,E,fr)) (hA : A.length = k) (h : vs.length ≤ cs.length) : blk (wr w R k vs) R = some ((A ++ (setL cs 0 vs ++ B)).toArray,E,fr) := by
  have := el_blk (o := 0) (vs := vs) hb hA (by omega)
  rw [Nat.add_zero] at this;exact this
theorem el_cell {R k o : Nat} {A cs B : List Value} (hA : A.length = k) (ho : o < cs.length) : ((A ++ (cs ++ B)).toArray)[k + o]? = cs[o]? := by subst hA;exact el_get ho
theorem el_open {w : World} {R k n : Nat} {E : TypeId} {A cs B : List Value} (hx : blk w R = some ((A ++ (cs ++ B)).toArray,E,(0,0))) (hA : A.length = k) (hn : cs.length = n) : ∃ X : Array Value,X = (A ++ (cs ++ B)).toArray ∧ blk w R = some (X,E,(0,0)) ∧ k + n ≤ X.size :=
  ⟨_,rfl,hx,by simp only [List.size_toArray,List.length_append,hA,hn];omega⟩
theorem SlR.row {α : Type} {Rl : Rel α} {ok : Blocks} {w : World} {E : TypeId} {fr : Nat × Nat} {r q size : Nat} {css : List (List Value)} {rest : List Value} {xs : List α} (hb : blk w r = some ((css.flatten ++ rest).toArray,E,fr)) (hok : ok r) (hc : Css size css) (hq : css.length ≤ q) (ha : All2 (Rl ok w) xs css) :
    SlR ok w size (Rl ok w) (.slice (some ⟨r,0,none⟩) css.length q) xs :=
  ⟨css,⟨_,q,rfl,hq,hc,.inr ⟨_,rfl,rfl,hok,_,hb,fun i hi => by
    simp only [Nat.zero_add,List.getElem?_toArray]
    exact List.getElem?_append_left hi⟩⟩,ha⟩

theorem rdMany_succ (r : St → Tree × St) (n : Nat) (s : St) : rdMany r (n + 1) s = ((r s).1 :: (rdMany r n (r s).2).1,(rdMany r n (r s).2).2) := rfl
theorem rdMany_step {r : St → Tree × St} {N j : Nat} {s1 s : St} {xs : List Tree} (h : rdMany r N s1 = (xs ++ (rdMany r (N - j) s).1,(rdMany r (N - j) s).2)) (hj : j < N) :
    rdMany r N s1 = ((xs ++ [(r s).1]) ++ (rdMany r (N - (j + 1)) (r s).2).1,(rdMany r (N - (j + 1)) (r s).2).2) := by
  have e : N - j = (N - (j + 1)) + 1 := by omega
  rw [e,rdMany_succ] at h
  rw [h];simp
theorem rdL_st {pt : List Fld → St → Tree × St} {dp : List Fld → Tree} {v : Int} {flex : Bool} {f : Fld} {fs : List Fld} {s : St} (ht : f.tag < 0) (hh : hasS f v = true) : rdL pt dp v flex (f :: fs) s = ((rdF pt v flex f s).1 :: (rdL pt dp v flex fs (rdF pt v flex f s).2).1,(rdL pt dp v flex fs (rdF pt v flex f s).2).2) := by
  rw [rdL,if_pos ⟨ht,hh⟩]
theorem rdP_f {d : Nat} {v : Int} {fs : List Fld} {s : St} {l : List Tree} {e : St} (h : rdL (rdP d v false) (dfP d) v false fs s = (l,e)) : rdP (d + 1) v false fs s = (.mk 0 [] false l [],e) := by
  rw [rdP,if_neg (by decide),h]
section
variable {pt : List Fld → St → Tree × St} {v : Int} {flex : Bool} {f : Fld} {s : St}
theorem rdF_text (hk : f.kind = 8) (hm : mayS f v = false) : rdF pt v flex f s = (.oct false (rdStr flex s).1,(rdStr flex s).2) := by
  unfold rdF rd1;rw [if_neg (by omega),if_neg (by omega),if_neg (by omega),if_neg (by omega),if_pos hk,hm,if_neg (by decide)]
theorem rdF_noct (hk : f.kind = 9) (hm : mayS f v = true) : rdF pt v flex f s = (.oct (rdNBytes flex s).1.1 (rdNBytes flex s).1.2,(rdNBytes flex s).2) := by
  unfold rdF rd1;rw [if_neg (by omega),if_neg (by omega),if_neg (by omega),if_neg (by omega),if_neg (by omega),if_pos hk,hm,if_pos rfl]
end
theorem mayS_no {f : Fld} {v : Int} (h : f.null < 0 ∨ v < f.null) : mayS f v = false := by
  unfold mayS;simp only [Bool.and_eq_false_iff,decide_eq_false_iff_not];omega
theorem mayS_yes {f : Fld} {v : Int} (h1 : 0 ≤ f.null) (h2 : f.null ≤ v) : mayS f v = true := by
  unfold mayS;simp only [Bool.and_eq_true,decide_eq_true_eq];exact ⟨h1,h2⟩
theorem rd1_num {pt : List Fld → St → Tree × St} {sub : List Fld} {may flex : Bool} {s : St} (k : Int) (h : k = 1 ∨ k = 2 ∨ k = 3 ∨ k = 4 ∨ k = 5) : rd1 pt k sub may flex s = (.num (rdInt (kindK k) (widthS k) s).1,(rdInt (kindK k) (widthS k) s).2) := by
  unfold rd1
  rw [if_neg (by omega),if_neg (by omega),if_neg (by omega),if_neg (by omega),if_neg (by omega)]
theorem rd1_part {pt : List Fld → St → Tree × St} {sub : List Fld} {flex : Bool} {s : St} : rd1 pt 10 sub false flex s = pt sub s := by
  unfold rd1;rw [if_neg (by omega),if_neg (by omega),if_neg (by omega),if_neg (by omega),if_pos rfl]
theorem wrap_wrap (k : IntKind) (n : Int) : k.wrap (k.wrap n) = k.wrap n := by
  cases k <;> simp [IntKind.wrap,IntKind.bits,IntKind.signed] <;> (try split) <;> (try split) <;> omega
theorem numC_rd (k : Int) (h : k = 1 ∨ k = 2 ∨ k = 3 ∨ k = 4 ∨ k = 5) (n : Nat) (s : St) : numC k (rdInt (kindK k) n s).1 = .int (kindK k) (rdInt (kindK k) n s).1 := by
  unfold rdInt
  rcases h with h | h | h | h | h <;> subst h <;> simp [numC,kindK,wrap_wrap]
structure RowJ (size : Nat) (E : TypeId) (zc : List Value) (L N j : Nat) (va : Value) (css : List (List Value)) (w : World) : Prop where
  len : css.length = j
  wid : Css size css
  row : (N = 0 ∧ ∃ a,va = .slice a 0 0 ∧ ∀ x,a = some x → L ≤ x.block ∧ x.block < w.heap.size) ∨ (0 < N ∧ ∃ R q rest,va = .slice (some ⟨R,0,none⟩) N q ∧ N ≤ q ∧ L ≤ R ∧ blk w R = some ((css.flatten ++ (zs zc (N - j) ++ rest)).toArray,E,(0,0)))
theorem RowJ.empty (size : Nat) (E : TypeId) (zc : List Value) (L : Nat) (w : World) : RowJ size E zc L 0 0 (.slice none 0 0) [] w := ⟨rfl,by simp [Css],.inl ⟨rfl,_,rfl,fun _ h => by cases h⟩⟩
theorem RowJ.start {size : Nat} {E : TypeId} {zc : List Value} {L N R q : Nat} {rest : List Value} {w : World} (h0 : 0 < N) (hq : N ≤ q) (hL : L ≤ R) (hb : blk w R = some ((zs zc N ++ rest).toArray,E,(0,0))) : RowJ size E zc L N 0 (.slice (some ⟨R,0,none⟩) N q) [] w :=
  ⟨rfl,by simp [Css],.inr ⟨h0,R,q,rest,rfl,hq,hL,by simpa using hb⟩⟩
theorem RowJ.upd {size : Nat} {E : TypeId} {zc : List Value} {L N j : Nat} {va : Value} {css : List (List Value)} {w w' : World} {S : Nat → Prop} (h : RowJ size E zc L N j va css w) (u : Upd S w w') (hs : ∀ b,ownB va b → ¬ S b) : RowJ size E zc L N j va css w' := by
  refine ⟨h.len,h.wid,?_⟩
  rcases h.row with ⟨h0,a,h1,h2⟩ | ⟨h0,R,q,rest,h1,h2,h3,h4⟩
  · exact .inl ⟨h0,a,h1,fun x hx => ⟨(h2 x hx).1,by have := (h2 x hx).2;have := u.size;omega⟩⟩
  · exact .inr ⟨h0,R,q,rest,h1,h2,h3,u.blk_some h4 (hs R ⟨_,_,_,h1,rfl⟩)⟩
theorem RowJ.shape {size : Nat} {E : TypeId} {zc : List Value} {L N j : Nat} {va : Value} {css : List (List Value)} {w : World} (h : RowJ size E zc L N j va css w) : ∃ a q,va = .slice a N q := by
  rcases h.row with ⟨rfl,a,rfl,_⟩ | ⟨_,R,q,rest,rfl,_⟩
  · exact ⟨_,_,rfl⟩
  · exact ⟨_,_,rfl⟩
theorem RowJ.next {size : Nat} {E : TypeId} {zc : List Value} {L N j : Nat} {va : Value} {css : List (List Value)} {w : World} (h : RowJ size E zc L N j va css w) (hj : j < N) :
    ∃ R q B,va = .slice (some ⟨R,0,none⟩) N q ∧ N ≤ q ∧ L ≤ R ∧ css.flatten.length = j * size ∧ blk w R = some ((css.flatten ++ (zc ++ B)).toArray,E,(0,0)) ∧
      ∀ (w' : World) (c : List Value),c.length = size → blk w' R = some ((css.flatten ++ (c ++ B)).toArray,E,(0,0)) → RowJ size E zc L N (j + 1) va (css ++ [c]) w' := by
  rcases h.row with ⟨h0,_⟩ | ⟨h0,R,q,rest,h1,h2,h3,h4⟩
  · omega
  · have hl := flatten_len h.wid
    rw [h.len] at hl
    have e : N - j = (N - (j + 1)) + 1 := by omega
    rw [e,zs_succ,List.append_assoc] at h4
    refine ⟨R,q,zs zc (N - (j + 1)) ++ rest,h1,h2,h3,hl,h4,fun w' c hc hb => ⟨by simp [h.len],fun cs hm => ?_,.inr ⟨h0,R,q,rest,h1,h2,h3,?_⟩⟩⟩
    · rcases List.mem_append.1 hm with hm | hm
      · exact h.wid _ hm
      · simp only [List.mem_singleton] at hm;rw [hm];exact hc
    · rw [hb];simp [List.append_assoc]
theorem All2.snoc {α β : Type} {R : α → β → Prop} {xs : List α} {ys : List β} {x : α} {y : β} (h : All2 R xs ys) (hx : R x y) : All2 R (xs ++ [x]) (ys ++ [y]) := by
  refine ⟨by simp [h.1],fun i h1 h2 => ?_⟩
  simp only [List.length_append,List.length_cons,List.length_nil] at h1 h2
  have h3 := h.1
  by_cases hi : i < xs.length
  · rw [List.getElem_append_left hi,List.getElem_append_left (by omega)]
    exact h.2 i hi (by omega)
  · have : i = xs.length := by omega
    subst this
    rw [List.getElem_append_right (Nat.le_refl _),List.getElem_append_right (by omega)]
    simpa [h3] using hx
theorem RepF_row {tg : Bool} {d : Nat} {f : Fld} {v : Int} {ok : Blocks} {w : World} {size : Nat} {E : TypeId} {zc : List Value} {L N : Nat} {n : Int} {va : Value} {css : List (List Value)} {xs : List Tree} (hk : f.kind = 11) (hn : N = 0 → if nilS f v n = true then va = .slice none 0 0 else ∃ a,va = .slice (some a) 0 0) (hN : N = n.toNat) (hsz : sz1 (szS tg d) f.of f.sub = size)
    (hr : RowJ size E zc L N N va css w) (ha : All2 (Rep1 (RepS tg d) f.of f.sub (fun b => ok b ∧ ¬ ownB va b) w) xs css) (hL : ∀ b,L ≤ b → ok b) : RepF (RepS tg d) (szS tg d) f ok w (.mk 0 [] (nilS f v n) xs []) [va] := by
  unfold RepF
  rw [if_neg (by omega),if_pos hk]
  refine ⟨va,rfl,?_⟩
  have hl := hr.len
  rcases hr.row with ⟨h0,_⟩ | ⟨h0,R,q,rest,rfl,h2,h3,h4⟩
  · have hv := hn h0
    by_cases hnl : nilS f v n = true
    · rw [if_pos hnl] at hv
      show (if nilS f v n = true then _ else _)
      rw [if_pos hnl];exact hv
    · rw [if_neg hnl] at hv
      obtain ⟨a,rfl⟩ := hv
      show (if nilS f v n = true then _ else _)
      rw [if_neg hnl]
      have hc : css = [] := List.length_eq_zero_iff.1 (by omega)
      subst hc
      have hx : xs = [] := List.length_eq_zero_iff.1 ha.1
      subst hx
      exact ⟨⟨[],⟨_,_,rfl,Nat.le_refl _,(fun _ h => by cases h),.inl rfl⟩,rfl,fun i h => absurd h (Nat.not_lt_zero i)⟩,_,_,_,rfl⟩
  · have : nilS f v n = false := by
      unfold nilS
      split
      · simp only [Bool.and_eq_false_iff,decide_eq_false_iff_not];omega
      · simp only [decide_eq_false_iff_not];omega
    show (if nilS f v n = true then _ else _)
    rw [if_neg (by rw [this];decide),hsz]
    refine ⟨?_,_,_,_,rfl⟩
    have h5 : All2 (Rep1 (RepS tg d) f.of f.sub ok w) xs css := ha.imp fun x c hc => (Rep1_lay f.of f.sub fun _ => RepS_lay tg d _).weaken hc fun b _ hb => hb.1
    have := SlR.row (Rl := Rep1 (RepS tg d) f.of f.sub) (size := size) (css := css) (fr := (0,0)) h4 (hL R h3) hr.wid (by rw [hl];exact h2) h5
    rw [hl] at this
    exact this
theorem nilS_plain {f : Fld} {v n : Int} (h : f.null < 0) (h0 : n ≤ 0) : nilS f v n = true := by unfold nilS;rw [if_neg (by omega)];exact decide_eq_true h0
theorem ownB_row {R n q b : Nat} (h : ownB (.slice (some ⟨R,0,none⟩) n q) b) : b = R := by
  obtain ⟨a,k,c,h1,h2⟩ := h
  simp only [Value.slice.injEq,Option.some.injEq] at h1
  rw [h2,← h1.1]
theorem Rdr.store {T : TypeId} {ok : Blocks} {w : World} {rb B o : Nat} {vs : List Value} {st : St} (h : Rdr T ok w rb st ∧ NN w rb st) (h1 : ¬ rb = B) (h2 : ok B → False) : Rdr T ok (wr w B o vs) rb st ∧ NN (wr w B o vs) rb st := by
  have u : Upd (fun b => b = B) w (wr w B o vs) := (Upd.refl _ _).wr _ _ (.inr rfl)
  exact ⟨h.1.upd u h1 fun b _ hk e => h2 (e ▸ hk),h.2.upd u h1⟩
theorem Rdr.stored {T : TypeId} {ok : Blocks} {w w' : World} {rb B o : Nat} {vs : List Value} {st : St} (hw : wr w B o vs = w') (h : Rdr T ok w rb st ∧ NN w rb st) (h1 : ¬ rb = B) (h2 : ok B → False) : Rdr T ok w' rb st ∧ NN w' rb st := hw ▸ Rdr.store h h1 h2
end Ms

namespace Ms
open Nat renaming reduceEqDiff → n0,reduceAdd → n1,reduceMul → n2,reduceSub → n3,reduceLT → n4,reduceLeDiff → n5
open Int renaming reduceEq → i0,reduceLT → i1,reduceLE → i2,reduceNeg → i3,reduceAdd → i4,reduceSub → i5,reduceMul → i6,reduceToNat → i7
set_option maxRecDepth 8000
open Go Go.Proofs Go.Shelf
attribute [local congr] W_congr WPsq_congr WPp_congr optK_congr addrK_congr intK_congr boolK_congr sliceK_congr tupleK_congr funcK_congr Fn_congr rawK_congr takeK_congr stepK_congr convK_congr aggK_congr

def Glo (ev : Value) (w : World) : Prop := GloBE w ∧ GloErr w ev
theorem Glo.lt {ev : Value} {w : World} (h : Glo ev w) : 0 < w.heap.size ∧ 1 < w.heap.size := by
  obtain ⟨⟨x,hx⟩,y,hy,_⟩ := h
  exact ⟨blk_lt hx,blk_lt hy⟩
theorem Glo.updS {ev : Value} {w w' : World} {S : Nat → Prop} (h : Glo ev w) (u : Upd S w w') (h1 : ¬ S 0) (h2 : ¬ S 1) : Glo ev w' := by
  obtain ⟨⟨x,hx⟩,y,hy,he⟩ := h
  exact ⟨⟨x,u.blk_some hx h1⟩,y,u.blk_some hy h2,he⟩
end Ms

namespace Ms
open Go

structure LstI (T : TypeId) (r : St → Tree × St) (rel : Rel Tree) (size : Nat) (E : TypeId) (zc : List Value) (L N : Nat) (ok okE : Blocks) (rb : Nat) (wa : World) (sA : St) (va : Value) (j : Nat) (s : St) (xs : List Tree) (css : List (List Value)) (w : World) : Prop where
  le : j ≤ N
  row : RowJ size E zc L N j va css w
  all : All2 (rel (fun b => okE b ∧ ¬ ownB va b) w) xs css
  rd : Rdr T ok w rb s ∧ NN w rb s
  upd : Upd (fun b => b = rb) wa w
  eq : rdMany r N sA = (xs ++ (rdMany r (N - j) s).1,(rdMany r (N - j) s).2)
section
variable {T : TypeId} {r : St → Tree × St} {rel : Rel Tree} {size : Nat} {E : TypeId} {zc : List Value} {L N : Nat} {ok okE : Blocks} {rb : Nat} {wa : World} {sA : St} {va : Value} {j : Nat} {s : St} {xs : List Tree} {css : List (List Value)} {w w' : World}
theorem LstI.start (h : RowJ size E zc L N 0 va [] w) (hr : Rdr T ok w rb sA ∧ NN w rb sA) (hu : Upd (fun b => b = rb) wa w) : LstI T r rel size E zc L N ok okE rb wa sA va 0 sA [] [] w :=
  ⟨Nat.zero_le _,h,⟨rfl,fun i h => by simp at h⟩,hr,hu,by simp⟩
theorem RowJ.own (h : RowJ size E zc L N j va css w) {b : Nat} (hb : ownB va b) : L ≤ b ∧ b < w.heap.size := by
  obtain ⟨a,n,c,he,rfl⟩ := hb
  rcases h.row with ⟨_,a',h1,h2⟩ | ⟨_,R,q,rest,h1,_,hL,hbk⟩
  · rw [he] at h1;cases h1;exact h2 _ rfl
  · rw [he] at h1;cases h1;exact ⟨hL,blk_lt hbk⟩
theorem LstI.step (hR : Lay rel size) (h : LstI T r rel size E zc L N ok okE rb wa sA va j s xs css w) (hj : j < N) {c : List Value} (row : RowJ size E zc L N (j + 1) va (css ++ [c]) w') (hx : rel (fun b => okE b ∧ ¬ ownB va b) w' (r s).1 c)
    (u : Upd (fun b => ownB va b ∨ b = rb) w w') (rd : Rdr T ok w' rb (r s).2 ∧ NN w' rb (r s).2) (hok : ¬ okE rb) (hL : wa.heap.size ≤ L) : LstI T r rel size E zc L N ok okE rb wa sA va (j + 1) (r s).2 (xs ++ [(r s).1]) (css ++ [c]) w' := by
  refine ⟨hj,row,(h.all.imp fun x y hxy => hR.keep hxy (u.keeps fun b _ hk e => ?_)).snoc hx,rd,?_,rdMany_step h.eq hj⟩
  · rcases e with e | e
    · exact hk.2 e
    · exact hok (e ▸ hk.1)
  · refine h.upd.trans' u fun i hi e => ?_
    rcases e with e | e
    · have := (h.row.own e).1;omega
    · exact e
theorem LstI.done (h : LstI T r rel size E zc L N ok okE rb wa sA va N s xs css w) : rdMany r N sA = (xs,s) := by
  have := h.eq
  rw [Nat.sub_self] at this
  simpa [rdMany] using this
theorem LstI.bad (h : LstI T r rel size E zc L N ok okE rb wa sA va j s xs css w) (hj : j < N) (hn : (r none).2 = none) (hb : (r s).2 = none) : (rdMany r N sA).2 = none := by
  rw [rdMany_step h.eq hj,hb]
  exact rdMany_none hn _
end
theorem rdP_bad {d : Nat} {v : Int} {flex : Bool} {fs : List Fld} {s : St} (h : (rdL (rdP d v flex) (dfP d) v flex fs s).2 = none) : (rdP (d + 1) v flex fs s).2 = none := by
  rw [rdP]
  split
  · rw [h];exact rdTags_none
  · exact h
theorem rdL_bad {d : Nat} {v : Int} {flex : Bool} {f : Fld} {fs : List Fld} {s : St} (h : (rdF (rdP d v flex) v flex f s).2 = none) : (rdL (rdP d v flex) (dfP d) v flex fs (rdF (rdP d v flex) v flex f s).2).2 = none := by
  rw [h];exact rdL_none (rdP_none v flex d) v flex fs
theorem rdF_listbad {d : Nat} {v : Int} {flex : Bool} {f : Fld} {s : St} (hk : f.kind = 11) (h : (rdMany (rd1 (rdP d v flex) f.of f.sub false flex) (rdALen flex s).1.toNat (rdALen flex s).2).2 = none) : (rdF (rdP d v flex) v flex f s).2 = none := by
  unfold rdF
  rw [if_pos hk]
  exact h
theorem rd1P_none {d : Nat} {v : Int} {flex : Bool} {k : Int} {sub : List Fld} : (rd1 (rdP d v flex) k sub false flex none).2 = none := rd1_none (rdP_none v flex d) _ _ _ _
theorem rdALen_rng (flex : Bool) (st : St) : -2147483648 ≤ (rdALen flex st).1 ∧ (rdALen flex st).1 < 2147483648 := by
  have key : ∀ n : Int,-2147483648 ≤ IntKind.i32.wrap n ∧ IntKind.i32.wrap n < 2147483648 := fun n => by
    unfold IntKind.wrap;simp [IntKind.bits,IntKind.signed];split <;> omega
  have h2 : -2147483648 ≤ (rdCnt flex st).1 ∧ (rdCnt flex st).1 < 2147483648 := by
    cases flex
    · rw [rdCnt_f];unfold rdInt;exact key _
    · rw [rdCnt_t];exact key _
  unfold rdALen
  split
  · exact ⟨by decide,by decide⟩
  · exact h2
theorem rdF_listE {pt : List Fld → St → Tree × St} {v : Int} {flex : Bool} {f : Fld} {s e : St} {xs : List Tree} (hk : f.kind = 11) (h : rdMany (rd1 pt f.of f.sub false flex) (rdALen flex s).1.toNat (rdALen flex s).2 = (xs,e)) : rdF pt v flex f s = (.mk 0 [] (nilS f v (rdALen flex s).1) xs [],e) := by
  unfold rdF
  rw [if_pos hk]
  unfold rdList
  rw [h]
def Holds : List (Nat × Value) → Regs → Prop
  | [],_ => True
  | p :: l,ρ => ρ p.1 = p.2 ∧ Holds l ρ
theorem Holds_nil (ρ : Regs) : Holds [] ρ = True := nr rfl
theorem Holds_cons (r : Nat) (v : Value) (l : List (Nat × Value)) (ρ : Regs) : Holds ((r,v) :: l) ρ = (ρ r = v ∧ Holds l ρ) := nr rfl
def RowQ (l : List (Nat × Value)) (ra : Nat) (I : Value → World → Prop) (ρ : Regs) (w : World) : Prop := Holds l ρ ∧ ∃ v,ρ ra = v ∧ I v w
def LoopQ (l : List (Nat × Value)) (ri : Nat) (I : Nat → World → Prop) (ρ : Regs) (w : World) : Prop := Holds l ρ ∧ ∃ j : Nat,ρ ri = .int .i32 j ∧ I j w
def EndQ (l : List (Nat × Value)) (I : World → Prop) (ρ : Regs) (w : World) : Prop := Holds l ρ ∧ I w
theorem slBase_00 (a : Option Addr) (s : Nat) : slBase a 0 0 s = a := by
  unfold slBase
  rw [if_pos rfl]
theorem RowJ.zero {size : Nat} {E : TypeId} {zc : List Value} {L N : Nat} {w : World} {a : Option Addr} (h0 : N = 0) (h : ∀ x,a = some x → L ≤ x.block ∧ x.block < w.heap.size) : RowJ size E zc L N 0 (.slice a 0 0) [] w := ⟨rfl,by simp [Css],.inl ⟨h0,_,rfl,h⟩⟩
theorem isSome_some {s : St} (h : ¬ s = none) : s.isSome = true := by
  cases s with
  | none => exact absurd rfl h
  | some x => rfl
theorem errV_none {s : St} {ev : Value} (h : s = none) : errV ev s = ev := by subst h;rfl

def wrapN (k n : Int) : Int := if k = 1 then IntKind.i8.wrap n else if k = 2 then IntKind.i16.wrap n else if k = 3 then IntKind.i32.wrap n else if k = 5 then IntKind.u16.wrap n else n
def sortT (u : List TagD) : List TagD := u.mergeSort fun a b => decide (a.1 ≤ b.1)
def tl1 (tp : List Fld → Tree → Tree) (k : Int) (sub : List Fld) (x : Tree) : Tree :=
  if k = 0 then .num (if x.n % 2 = 1 then 1 else 0)
  else if k = 7 then .oct false (uuidS x.s)
  else if k = 8 then .oct false x.s
  else if k = 9 then .oct x.null (if x.null = true then [] else x.s)
  else if k = 10 then tp sub x
  else .num (wrapN k x.n)
def tlF (tp : List Fld → Tree → Tree) (f : Fld) (x : Tree) : Tree :=
  if f.kind = 8 ∧ 0 ≤ f.null then .oct x.null (if x.null = true then [] else x.s)
  else if f.kind = 11 then .mk 0 [] x.null ((if x.null = true then [] else x.l).map (tl1 tp f.of f.sub)) []
  else tl1 tp f.kind f.sub x
def tlL (tp : List Fld → Tree → Tree) (t : Tree) : List Fld → Nat → List Tree
  | [],_ => []
  | f :: fs,i => tlF tp f (t.at i) :: tlL tp t fs (i + 1)
def tlP : Nat → List Fld → Tree → Tree
  | 0,_,_ => .zero
  | d + 1,fs,t => .mk 0 [] false (tlL (tlP d) t fs 0) (sortT t.u)

def Good1 (G : List Fld → Tree → Prop) (k : Int) (sub : List Fld) (x : Tree) : Prop := (k = 4 → IntKind.i64.wrap x.n = x.n) ∧ x.s.length ≤ 32767 ∧ (k = 10 → G sub x)
def GoodF (G : List Fld → Tree → Prop) (f : Fld) (x : Tree) : Prop := if f.kind = 11 then x.l.length ≤ 32767 ∧ ∀ y ∈ x.l,Good1 G f.of f.sub y else Good1 G f.kind f.sub x
def GoodL (G : List Fld → Tree → Prop) (t : Tree) : List Fld → Nat → Prop
  | [],_ => True
  | f :: fs,i => GoodF G f (t.at i) ∧ GoodL G t fs (i + 1)
def GoodU (u : List TagD) : Prop := u.length ≤ 32767 ∧ (u.map (·.1)).Nodup ∧ ∀ y ∈ u,y.2.length ≤ 32767
def GoodP : Nat → List Fld → Tree → Prop
  | 0,_,_ => True
  | d + 1,fs,t => GoodL (GoodP d) t fs 0 ∧ GoodU t.u
theorem GoodF.one {G : List Fld → Tree → Prop} {f : Fld} {x : Tree} (h : GoodF G f x) (hk : f.kind ≠ 11) : Good1 G f.kind f.sub x := by unfold GoodF at h;rw [if_neg hk] at h;exact h
theorem GoodF.list {G : List Fld → Tree → Prop} {f : Fld} {x : Tree} (h : GoodF G f x) (hk : f.kind = 11) : x.l.length ≤ 32767 ∧ ∀ y ∈ x.l,Good1 G f.of f.sub y := by unfold GoodF at h;rw [if_pos hk] at h;exact h
theorem GoodF.listL {G : List Fld → Tree → Prop} {f : Fld} {x : Tree} (h : GoodF G f x) (hk : f.kind = 11) {L : List Tree} (hL : L = if x.null = true then [] else x.l) : L.length ≤ 32767 ∧ ∀ y ∈ L,Good1 G f.of f.sub y := by
  subst hL
  split
  · exact ⟨by simp,fun y hy => by cases hy⟩
  · exact h.list hk
theorem RepF_listT {R : List Fld → Rel Tree} {S : List Fld → Nat} {f : Fld} {ok : Blocks} {w : World} {t : Tree} {c : List Value} (h : f.kind = 11) (hr : RepF R S f ok w t c) :
    ∃ a k L,c = [.slice a L.length k] ∧ L = (if t.null = true then [] else t.l) ∧ a.isNone = t.null ∧ SlR ok w (sz1 S f.of f.sub) (Rep1 R f.of f.sub ok w) (.slice a L.length k) L := by
  unfold RepF at hr
  rw [if_neg (by omega),if_pos h] at hr
  obtain ⟨v,rfl,hr⟩ := hr
  by_cases ht : t.null = true
  · rw [if_pos ht] at hr
    subst hr
    exact ⟨none,0,[],rfl,by rw [if_pos ht],by rw [ht];rfl,[],⟨none,0,rfl,Nat.le_refl _,by simp,.inl rfl⟩,rfl,fun i h => by simp at h⟩
  · rw [if_neg ht] at hr
    obtain ⟨hs,a,n,k,rfl⟩ := hr
    obtain ⟨a',k',e,_⟩ := SlR.shape hs
    cases e
    exact ⟨_,_,t.l,rfl,by rw [if_neg ht],by cases h : t.null with | true => exact absurd h ht | false => rfl,hs⟩
theorem wrap_wider (k : IntKind) (hk : k = .i8 ∨ k = .i16 ∨ k = .i32 ∨ k = .u16) (n : Int) : IntKind.i64.wrap (k.wrap n) = k.wrap n := by
  have : -9223372036854775808 ≤ k.wrap n ∧ k.wrap n < 9223372036854775808 := by
    rcases hk with h | h | h | h <;> subst h <;> (unfold IntKind.wrap;simp [IntKind.bits,IntKind.signed]) <;> (try split) <;> omega
  exact i64_wrap (by omega)
theorem tl8 (n : Int) : IntKind.i64.wrap (IntKind.i8.wrap n) = IntKind.i8.wrap n := wrap_wider _ (by simp) n
theorem tl16 (n : Int) : IntKind.i64.wrap (IntKind.i16.wrap n) = IntKind.i16.wrap n := wrap_wider _ (by simp) n
theorem tl32 (n : Int) : IntKind.i64.wrap (IntKind.i32.wrap n) = IntKind.i32.wrap n := wrap_wider _ (by simp) n
theorem tlu16 (n : Int) : IntKind.i64.wrap (IntKind.u16.wrap n) = IntKind.u16.wrap n := wrap_wider _ (by simp) n

theorem bytesRow_list (s : List UInt8) (cap : Nat) : bytesRow ⟨s.toArray⟩ cap = (s.map byteV ++ List.replicate (cap - s.length) (Value.int .u8 0)).toArray := by
  apply Array.ext'
  simp [bytesRow,ByteArray.size]
  exact fun _ _ => rfl
section
variable {P : Program}
theorem wp_octets {S T E : TypeId} (hs : P.underlying S = some .string) (hd : P.underlying T = some (.slice E)) (he : P.underlying E = some (.int .u8)) {s : List UInt8}
    {w : World} {ρ : Regs} {d : Option Nat} {x : Operand} {type : TypeId} {pos : String} {after : Array Edge} {guard : Option (Nat × Bool)} {K : Regs → World → Prop}
    (hx : ev ρ x = strV s) (hk : ∀ a k w',BytesV (fun b => w.heap.size ≤ b) w' (.slice (some a) s.length k) s → Ext w w' → K (put ρ d (.slice (some a) s.length k)) w') :
    rawK P { dst := d,op := .convert S T x,type := type,pos := pos,after := after,guard := guard } ρ w K := by
  refine ⟨?_⟩
  have hr := run_bytes_of_string w S T E ⟨s.toArray⟩ hs hd he
  have hsz : (⟨s.toArray⟩ : ByteArray).size = s.length := by simp [ByteArray.size]
  rw [hsz,bytesRow_list] at hr
  have hcap : s.length ≤ grownCap w s.length 0 E := by unfold grownCap;simp only [Question.cut];omega
  generalize grownCap w s.length 0 E = cap at *
  have : (execOp (ev ρ) { dst := d,op := .convert S T x,type := type,pos := pos,after := after,guard := guard }).run P w = .ok (.value (.slice (some ⟨w.heap.size,0,none⟩) s.length cap)) (w.drew.alloc (.cells (s.map byteV ++ List.replicate (cap - s.length) (Value.int .u8 0)).toArray E ((s.map byteV ++ List.replicate (cap - s.length) (Value.int .u8 0)).toArray.size,(s.map byteV ++ List.replicate (cap - s.length) (Value.int .u8 0)).toArray.size + 1))) := by
    have hr' : (convert S T (strV s)).run P w = _ := hr
    simp only [execOp,hx,Sem.run_bind,hr',Result.andThen_ok,Sem.run_pure]
  rw [this]
  refine hk _ _ _ ?_ ((Upd.refl _ _).drew.alloc _)
  refine ⟨_,cap,by rw [List.length_map],by rw [List.length_map];exact hcap,fun cs hm => ?_,.inr ⟨_,rfl,rfl,Nat.le_refl _,_,blk_alloc_new rfl,fun i hi => ?_⟩⟩
  · obtain ⟨b,_,rfl⟩ := List.mem_map.1 hm;rfl
  · rw [bytes_flat] at hi ⊢
    simp only [Nat.zero_add,List.getElem?_toArray]
    exact List.getElem?_append_left hi
end
theorem bytes_at {w : World} {b o : Nat} {x : Blk} {n : Nat} {s : List UInt8} (hb : blk w b = some x) (hl : s.length = n) (h : ∀ i,i < n → x.1[o + i]? = (s.map byteV)[i]?) : BytesV AnyB w (.slice (some ⟨b,o,none⟩) n n) s := by
  subst hl
  refine ⟨_,s.length,by rw [List.length_map],by rw [List.length_map];exact Nat.le_refl _,fun cs hm => ?_,.inr ⟨_,rfl,rfl,trivial,x,hb,fun i hi => ?_⟩⟩
  · obtain ⟨b,_,rfl⟩ := List.mem_map.1 hm;rfl
  · rw [bytes_flat] at hi ⊢
    exact h i (by simpa using hi)
theorem Own.setlast {B : Nat} {w : World} {E : TypeId} {size : Nat} {g : Nat} {n q : Nat} {xs z cs : List Value} (h : Own B w E size (.slice (some ⟨g,0,none⟩) (n + 1) q) (n + 1) (xs ++ z)) (hz : z.length = size) (hc : cs.length = size) : Own B (wr w g (n * size) cs) E size (.slice (some ⟨g,0,none⟩) (n + 1) q) (n + 1) (xs ++ cs) := by
  obtain ⟨h1,h2⟩ := h
  have hl : xs.length = n * size := by
    simp only [List.length_append,hz,Nat.succ_mul] at h1;omega
  refine ⟨by simp only [List.length_append,hc,hl,Nat.succ_mul],?_⟩
  rcases h2 with ⟨h,_⟩ | ⟨g',cap,rest,fr,h3,h4,h5,h6,h7,h8⟩
  · cases h
  · cases h3
    refine .inr ⟨g,_,rest,fr,rfl,h4,?_,by simp only [List.length_append,hc,hz] at h6 ⊢;exact h6,h7,h8⟩
    rw [List.append_assoc] at h5 ⊢
    have := el_blk0 (vs := cs) h5 hl (by omega)
    rw [this]
    congr 2
    have e1 := el_sets (A := []) (B := []) cs z 0 (by omega)
    simp only [List.nil_append,List.append_nil,List.length_nil,Nat.zero_add] at e1
    have e2 := wrArr_full (c := z.toArray) (vs := cs) (by rw [List.size_toArray];omega)
    have e3 : setL z 0 cs = cs := congrArg Array.toList (e1.symm.trans e2)
    rw [e3]
theorem sortT_perm (u : List TagD) : (sortT u).Perm u := List.mergeSort_perm _ _
theorem wr_comm {w : World} {a b o p : Nat} {vs us : List Value} (h : a ≠ b) : wr (wr w a o vs) b p us = wr (wr w b p us) a o vs := by
  simp only [wr]
  congr 1
  apply Array.ext_getElem?
  intro i
  simp only [Array.getElem?_modify]
  by_cases h1 : b = i
  · have h2 : ¬ a = i := by omega
    simp [h1,h2]
  · simp [h1]
def LoopL (l : List (Nat × Value)) (ri : Nat) (I : Nat → World → Prop) (ρ : Regs) (w : World) : Prop := Holds l ρ ∧ ∃ j : Nat,ρ ri = .int .i64 j ∧ I j w
def TreeRg (ok : Blocks) (w : World) (w' : World) (r : Value) (t : Tree) : Prop := ∃ cs,r = .agg cs.toArray ∧ TreeC (okN ok w.heap.size) w' t cs
theorem treesN (ok : Blocks) (w : World) : TreesV ok w (.slice none 0 0) [] := ⟨[],⟨none,0,rfl,Nat.le_refl _,by simp,.inl rfl⟩,rfl,fun i h => by simp at h⟩
theorem tagsN (ok : Blocks) (w : World) : TagsV ok w (.slice none 0 0) [] := ⟨[],⟨none,0,rfl,Nat.le_refl _,by simp,.inl rfl⟩,rfl,fun i h => by simp at h⟩

def Shr {α : Type} (r : St → α × St) : Prop := ∀ st,stLen (r st).2 ≤ stLen st
/-! ### The tags -/
/-! ### The parts -/
def okDf : Nat → List Fld → Bool
  | 0,_ => true
  | d + 1,fs => decide (fs.length ≤ 32767) && fs.all fun f => (!decide (f.kind = 4) || decide (IntKind.i64.wrap f.df = f.df)) && (!decide (f.kind = 10) && !decide (f.of = 10) || okDf d f.sub)
inductive All3 {α β : Type} (R : α → β → Prop) : List α → List β → Prop
  | nil : All3 R [] []
  | cons {a : α} {b : β} {l : List α} {m : List β} (h : R a b) (t : All3 R l m) : All3 R (a :: l) (b :: m)
theorem goodL_of {G : List Fld → Tree → Prop} {n : Int} {s : List UInt8} {nl : Bool} {u : List TagD} : ∀ {fs : List Fld} {l : List Tree} (pre : List Tree),All3 (GoodF G) fs l → GoodL G (.mk n s nl (pre ++ l) u) fs pre.length
  | _,_,_,.nil => trivial
  | f :: fs,x :: l,pre,.cons h t => by
    refine ⟨?_,?_⟩
    · have : Tree.at (.mk n s nl (pre ++ x :: l) u) pre.length = x := by simp [Tree.at,Tree.l]
      rw [this];exact h
    · have := goodL_of (G := G) (n := n) (s := s) (nl := nl) (u := u) (pre ++ [x]) t
      simpa using this
theorem good1_num {G : List Fld → Tree → Prop} {k : Int} {sub : List Fld} {n : Int} (h : k = 4 → IntKind.i64.wrap n = n) (hk : k ≠ 10) : Good1 G k sub (.num n) := ⟨h,by simp [Tree.num,Tree.s],fun h => absurd h hk⟩
theorem good1_oct {G : List Fld → Tree → Prop} {k : Int} {sub : List Fld} {b : Bool} {s : List UInt8} (h : s.length ≤ 32767) (hk : k ≠ 10) : Good1 G k sub (.oct b s) := ⟨fun _ => rfl,h,fun h => absurd h hk⟩
theorem dfP_sn : ∀ d fs,(dfP d fs).s = [] ∧ (dfP d fs).n = 0
  | 0,_ => ⟨rfl,rfl⟩
  | d + 1,fs => ⟨rfl,rfl⟩
theorem Good_setNull {d : Nat} {fs : List Fld} {t : Tree} (h : GoodP d fs t) (b : Bool) : GoodP d fs (t.setNull b) := by
  cases t with
  | mk n s nl l u =>
    cases d with
    | zero => trivial
    | succ d =>
      refine ⟨?_,h.2⟩
      have key : ∀ (fs : List Fld) (i : Nat),GoodL (GoodP d) (.mk n s nl l u) fs i → GoodL (GoodP d) (.mk n s b l u) fs i := by
        intro fs
        induction fs with
        | nil => intro i _;trivial
        | cons f fs ih => intro i h;exact ⟨h.1,ih _ h.2⟩
      exact key fs 0 h.1
theorem dfF_good {d : Nat} {dp : List Fld → Tree} {f : Fld} (hdp : f.kind = 10 → GoodP d f.sub (dp f.sub) ∧ (dp f.sub).s = []) (h4 : f.kind = 4 → IntKind.i64.wrap f.df = f.df) : GoodF (GoodP d) f (dfF dp f) := by
  unfold GoodF dfF
  by_cases h11 : f.kind = 11
  · rw [if_pos h11,if_neg (by omega),if_neg (by omega),if_neg (by omega),if_pos h11]
    exact ⟨by simp [Tree.l],fun y hy => by simp [Tree.l] at hy⟩
  · rw [if_neg h11]
    by_cases h8 : f.kind = 8
    · rw [if_pos h8];exact good1_oct (by simp) (by omega)
    · rw [if_neg h8]
      by_cases h7 : f.kind = 7
      · rw [if_pos h7];exact good1_oct (by rw [uuidS_len];omega) (by omega)
      · rw [if_neg h7]
        by_cases h9 : f.kind = 9
        · rw [if_pos h9];exact good1_oct (by simp) (by omega)
        · rw [if_neg h9,if_neg h11]
          by_cases h10 : f.kind = 10
          · rw [if_pos h10]
            have := hdp h10
            refine ⟨fun h => by omega,?_,fun _ => Good_setNull this.1 _⟩
            have e : ((dp f.sub).setNull (decide (0 ≤ f.null))).s = (dp f.sub).s := by cases dp f.sub;rfl
            rw [e,this.2];simp
          · rw [if_neg h10];exact good1_num h4 h10
theorem okDf_f {d : Nat} {fs : List Fld} (h : okDf (d + 1) fs = true) {f : Fld} (hf : f ∈ fs) : (f.kind = 4 → IntKind.i64.wrap f.df = f.df) ∧ (f.kind = 10 ∨ f.of = 10 → okDf d f.sub = true) := by
  unfold okDf at h
  rw [Bool.and_eq_true] at h
  have := List.all_eq_true.1 h.2 f hf
  simp only [Bool.and_eq_true,Bool.or_eq_true,Bool.not_eq_true',decide_eq_false_iff_not,decide_eq_true_eq] at this
  refine ⟨fun h4 => this.1.resolve_left fun h => h h4,fun h10 => this.2.resolve_left fun h => ?_⟩
  rcases h10 with h10 | h10
  · exact h.1 h10
  · exact h.2 h10
theorem dfP_good : ∀ (d : Nat) (fs : List Fld),okDf d fs = true → GoodP d fs (dfP d fs)
  | 0,_,_ => trivial
  | d + 1,fs,h => by
    refine ⟨?_,by simp [dfP,Tree.u,GoodU]⟩
    have key : ∀ (gs : List Fld),(∀ f ∈ gs,f ∈ fs) → All3 (GoodF (GoodP d)) gs (gs.map (dfF (dfP d))) := by
      intro gs
      induction gs with
      | nil => intro _;exact .nil
      | cons f gs ih =>
        intro hm
        have hf := okDf_f h (hm f (by simp))
        exact .cons (dfF_good (fun h10 => ⟨dfP_good d f.sub (hf.2 (.inl h10)),(dfP_sn d f.sub).1⟩) hf.1) (ih fun g hg => hm g (by simp [hg]))
    exact goodL_of (G := GoodP d) [] (key fs fun _ h => h)
theorem GoodP_none (b : Bool) : ∀ (d : Nat) (fs : List Fld),GoodP d fs (.mk 0 [] b [] [])
  | 0,_ => trivial
  | d + 1,fs => by
    refine ⟨?_,by simp [Tree.u,GoodU]⟩
    have : ∀ (l : List Fld) (i : Nat),GoodL (GoodP d) (.mk 0 [] b [] []) l i := by
      intro l
      induction l with
      | nil => intro _;trivial
      | cons f l ih =>
        intro i
        refine ⟨?_,ih _⟩
        have ea : (Tree.mk 0 [] b [] []).at i = .zero := by simp [Tree.at,Tree.l]
        rw [ea]
        unfold GoodF
        split
        · exact ⟨by simp [Tree.zero,Tree.l],fun x hx => by cases hx⟩
        · exact ⟨fun _ => rfl,by simp [Tree.zero,Tree.s],fun _ => GoodP_none false d f.sub⟩
    exact this fs 0
theorem okDf_len {d : Nat} {fs : List Fld} (h : okDf (d + 1) fs = true) : fs.length ≤ 32767 := by
  unfold okDf at h
  rw [Bool.and_eq_true,decide_eq_true_eq] at h
  exact h.1
theorem small_num (n : Int) : Small 32767 (.num n) := .mk (by simp) (by simp) (by simp) (fun i h => by simp at h) (fun x h => by simp at h)
theorem small_oct (b : Bool) {s : List UInt8} (h : s.length ≤ 32767) : Small 32767 (.oct b s) := .mk h (by simp) (by simp) (fun i h => by simp at h) (fun x h => by simp at h)
theorem small_list (b : Bool) {l : List Tree} (hl : l.length ≤ 32767) (h : ∀ x ∈ l,Small 32767 x) : Small 32767 (.mk 0 [] b l []) := .mk (by simp) hl (by simp) (fun i hi => h _ (List.getElem_mem hi)) (fun x h => by simp at h)
theorem tl1_small {d : Nat} {k : Int} {sub : List Fld} {x : Tree} (hg : Good1 (GoodP d) k sub x) (hp : k = 10 → GoodP d sub x → Small 32767 (tlP d sub x)) : Small 32767 (tl1 (tlP d) k sub x) := by
  unfold tl1
  split
  · exact small_num _
  · split
    · exact small_oct _ (by rw [uuidS_len];omega)
    · split
      · exact small_oct _ hg.2.1
      · split
        · refine small_oct _ ?_
          split
          · simp
          · exact hg.2.1
        · split
          · rename_i h10;exact hp h10 (hg.2.2 h10)
          · exact small_num _
theorem tlL_len (tp : List Fld → Tree → Tree) (t : Tree) : ∀ fs i,(tlL tp t fs i).length = fs.length
  | [],_ => rfl
  | f :: fs,i => by simp [tlL,tlL_len tp t fs]
theorem tlP_small : ∀ (d : Nat) (fs : List Fld) (t : Tree),okDf d fs = true → GoodP d fs t → Small 32767 (tlP d fs t)
  | 0,_,_,_,_ => .mk (by simp) (by simp) (by simp) (fun i h => by simp at h) (fun x h => by simp at h)
  | d + 1,fs,t,ho,h => by
    have key : ∀ (gs : List Fld) (i : Nat),(∀ f ∈ gs,f ∈ fs) → GoodL (GoodP d) t gs i → ∀ y ∈ tlL (tlP d) t gs i,Small 32767 y := by
      intro gs
      induction gs with
      | nil => intro i _ _ y hy;simp [tlL] at hy
      | cons f gs ih =>
        intro i hm hg y hy
        rcases List.mem_cons.1 hy with rfl | hy
        · have hf := (okDf_f ho (hm f (by simp))).2
          unfold tlF
          split
          · rename_i h8
            refine small_oct _ ?_
            have h1 := (hg.1.one (by omega)).2.1
            split
            · simp
            · exact h1
          · split
            · rename_i h11
              have hl := hg.1.listL h11 rfl
              refine small_list _ (by rw [List.length_map];exact hl.1) fun x hx => ?_
              obtain ⟨z,hz,rfl⟩ := List.mem_map.1 hx
              exact tl1_small (hl.2 z hz) fun h10 hgz => tlP_small d f.sub z (hf (.inr h10)) hgz
            · rename_i h11
              exact tl1_small (hg.1.one h11) fun h10 hgz => tlP_small d f.sub _ (hf (.inl h10)) hgz
        · exact ih (i + 1) (fun g hg => hm g (by simp [hg])) hg.2 y hy
    have hu := h.2
    exact .mk (by simp) (by rw [tlL_len];exact okDf_len ho) (by rw [(sortT_perm t.u).length_eq];exact hu.1)
      (fun i hi => key fs 0 (fun _ h => h) h.1 _ (List.getElem_mem hi)) (fun x hx => hu.2.2 x ((sortT_perm t.u).mem_iff.1 hx))
theorem Small.lists {t : Tree} (h : Small 32767 t) : Lists t := by
  induction h with
  | mk hs hl hu he hd ih => exact .mk hl hu ih

theorem beN_append (a b : List UInt8) : beN (a ++ b) = beN a * 256 ^ b.length + beN b := by
  have : ∀ (b : List UInt8) (n : Nat),b.foldl (fun a b => a * 256 + b.toNat) n = n * 256 ^ b.length + beN b := by
    intro b
    induction b with
    | nil => intro n;simp [beN]
    | cons x b ih =>
      intro n
      have h1 := ih (n * 256 + x.toNat)
      have h2 := ih x.toNat
      have e : beN (x :: b) = x.toNat * 256 ^ b.length + beN b := by
        show (x :: b).foldl (fun a b => a * 256 + b.toNat) 0 = _
        rw [List.foldl_cons,Nat.zero_mul,Nat.zero_add];exact h2
      rw [List.foldl_cons,h1,e,List.length_cons,Nat.pow_succ]
      rw [Nat.add_mul,Nat.mul_assoc,Nat.mul_comm 256,Nat.add_assoc]
  unfold beN
  rw [List.foldl_append]
  exact this b _
theorem emod_mul (x m : Int) (hm : 0 < m) : x % (m * 256) = m * (x / m % 256) + x % m := by
  have h1 := Int.emod_add_mul_ediv x m
  have h2 := Int.emod_add_mul_ediv (x / m) 256
  have h3 := Int.emod_nonneg x (show m ≠ 0 by omega)
  have h4 := Int.emod_lt_of_pos x hm
  have h5 := Int.emod_nonneg (x / m) (show (256 : Int) ≠ 0 by omega)
  have h6 := Int.emod_lt_of_pos (x / m) (show (0 : Int) < 256 by omega)
  generalize x % m = r at *
  generalize x / m = q at *
  generalize q % 256 = r' at *
  generalize q / 256 = q' at *
  have e : x = (m * r' + r) + m * 256 * q' := by
    rw [← h1,← h2,Int.mul_add,Int.mul_assoc];omega
  rw [e,Int.add_mul_emod_self_left]
  have h7 : m * r' ≤ m * 255 := Int.mul_le_mul_of_nonneg_left (by omega) (by omega)
  have h8 : 0 ≤ m * r' := Int.mul_nonneg (by omega) h5
  exact Int.emod_eq_of_lt (by omega) (by omega)
theorem beN_fixed (x : Int) : ∀ k,((beN (fixedS x k) : Nat) : Int) = x % ((256 ^ k : Nat) : Int)
  | 0 => by simp [fixedS,beN,Int.emod_one]
  | k + 1 => by
    have ih := beN_fixed x k
    have e : fixedS x (k + 1) = [b8 (x.fdiv (2 ^ (8 * k)))] ++ fixedS x k := rfl
    have hp : (2 : Int) ^ (8 * k) = ((256 ^ k : Nat) : Int) := by rw [Int.pow_mul];simp
    have hpos : 0 < ((256 ^ k : Nat) : Int) := by exact_mod_cast Nat.pow_pos (by omega)
    rw [e,beN_append,beN_1,fixedS_len,Int.natCast_add,Int.natCast_mul,b8_toNat,ih,hp,Int.fdiv_eq_ediv_of_nonneg _ (by omega),Nat.pow_succ,Int.natCast_mul]
    rw [show ((256 : Nat) : Int) = 256 from rfl,emod_mul x _ hpos,Int.mul_comm]
theorem rdN_app (n : Nat) (a r : List UInt8) (h : a.length = n) : rdN n (some (a ++ r)) = (a,some r) := by
  rw [rdN_some (by rw [List.length_append];omega)]
  subst h
  simp
theorem rdInt_fixed (k : IntKind) (n : Nat) (x : Int) (r : List UInt8) (h : k.wrap (x % ((256 ^ n : Nat) : Int)) = k.wrap x) : rdInt k n (some (fixedS x n ++ r)) = (k.wrap x,some r) := by
  rw [rdInt,rdN_app n _ r (fixedS_len _ _)]
  simp only
  rw [beN_fixed,h]
theorem rd_i8 (x : Int) (r : List UInt8) : rdInt .i8 1 (some (fixedS x 1 ++ r)) = (IntKind.i8.wrap x,some r) := rdInt_fixed _ _ _ _ (by unfold IntKind.wrap;simp [IntKind.bits,IntKind.signed])
theorem rd_i16 (x : Int) (r : List UInt8) : rdInt .i16 2 (some (fixedS x 2 ++ r)) = (IntKind.i16.wrap x,some r) := rdInt_fixed _ _ _ _ (by unfold IntKind.wrap;simp [IntKind.bits,IntKind.signed])
theorem rd_u16 (x : Int) (r : List UInt8) : rdInt .u16 2 (some (fixedS x 2 ++ r)) = (IntKind.u16.wrap x,some r) := rdInt_fixed _ _ _ _ (by unfold IntKind.wrap;simp [IntKind.bits,IntKind.signed])
theorem rd_i32 (x : Int) (r : List UInt8) : rdInt .i32 4 (some (fixedS x 4 ++ r)) = (IntKind.i32.wrap x,some r) := rdInt_fixed _ _ _ _ (by unfold IntKind.wrap;simp [IntKind.bits,IntKind.signed])
theorem rd_i64 (x : Int) (r : List UInt8) : rdInt .i64 8 (some (fixedS x 8 ++ r)) = (IntKind.i64.wrap x,some r) := rdInt_fixed _ _ _ _ (by unfold IntKind.wrap;simp [IntKind.bits,IntKind.signed])

theorem uvD_uvar : ∀ (k n : Nat) (r : List UInt8),n < 16 * 128 ^ k → uvD k (uvarS n ++ r) = some (n,r)
  | 0,n,r,h => by
    rw [uvarS_small (by omega)]
    have : (b8 (n : Int)).toNat = n := by have := b8_toNat (n : Int);omega
    simp only [List.cons_append,List.nil_append,uvD,this]
    rw [if_pos (by omega)]
  | k + 1,n,r,h => by
    rcases Nat.lt_or_ge 127 n with hn | hn
    · rw [uvarS_big hn,List.cons_append]
      have hb : (b8 ((n % 128 : Nat) + 128 : Int)).toNat = n % 128 + 128 := by
        have := b8_toNat ((n % 128 : Nat) + 128 : Int);omega
      have hq : n / 128 < 16 * 128 ^ k := by
        rw [Nat.div_lt_iff_lt_mul (by omega)]
        rw [Nat.pow_succ] at h;omega
      simp only [uvD,hb]
      rw [if_neg (by omega),uvD_uvar k (n / 128) r hq,Option.map_some]
      simp only [Option.some.injEq,Prod.mk.injEq,and_true]
      omega
    · rw [uvarS_small hn]
      have : (b8 (n : Int)).toNat = n := by have := b8_toNat (n : Int);omega
      simp only [List.cons_append,List.nil_append,uvD,this]
      rw [if_pos (by omega)]
theorem rdUv_uvar (n : Nat) (r : List UInt8) (h : n < 4294967296) : rdUv (some (uvarS n ++ r)) = (n,some r) := by
  unfold rdUv
  simp only [uvD_uvar 4 n r (by omega)]
theorem rdSpan_app (s r : List UInt8) : rdSpan (s.length : Int) (some (s ++ r)) = (s,some r) := by
  rw [rdSpan_good (by rw [List.length_append];omega)];simp
theorem rdSpan_16 (s r : List UInt8) : rdSpan 16 (some (uuidS s ++ r)) = (uuidS s,some r) := by
  have := rdSpan_app (uuidS s) r
  rw [uuidS_len] at this;exact this

def verN (v : Int) : Int := if v < 0 then 0 else v
theorem verN_cases (v : Int) : v = verN v ∨ (v < 0 ∧ verN v = 0) := by unfold verN;split <;> omega
theorem rdI16_rng (st : St) : -32768 ≤ (rdInt .i16 2 st).1 ∧ (rdInt .i16 2 st).1 ≤ 32767 := by
  unfold rdInt IntKind.wrap;simp [IntKind.bits,IntKind.signed];split <;> omega
theorem verN_rng (st : St) : 0 ≤ verN (rdInt .i16 2 st).1 ∧ verN (rdInt .i16 2 st).1 ≤ 32767 := by
  have := rdI16_rng st
  unfold verN;split <;> omega
def Tree.setN (t : Tree) (n : Int) : Tree := .mk n t.s t.null t.l t.u
theorem Small.setN {M : Nat} {t : Tree} (h : Small M t) (n : Int) : Small M (t.setN n) := by
  cases h with
  | mk h1 h2 h3 h4 h5 => exact .mk h1 h2 h3 h4 h5
theorem rd_kept (v : Int) (P : List UInt8) (h : IntKind.i16.wrap v = v) : rdInt .i16 2 (some (fixedS v 2 ++ P)) = (v,some P) := by rw [rd_i16,h]

def cn1 (pt : List Fld → Tree → Tree) (kind : Int) (sub : List Fld) (null : Bool) (t : Tree) : Tree :=
  if kind = 0 then .num (t.n % 2)
  else if kind = 7 then .oct false (uuidS t.s)
  else if kind = 8 ∨ kind = 9 then .oct null (if null = true then [] else wholeS t.s)
  else if kind = 10 then pt sub t
  else .num ((kindK kind).wrap t.n)
def cnF (pt : List Fld → Tree → Tree) (v : Int) (f : Fld) (t : Tree) : Tree :=
  if f.kind = 11 then .mk 0 [] (nilS f v (if nullS f v t = true then -1 else (thingsS t.l).length)) (if nullS f v t = true then [] else (thingsS t.l).map (cn1 pt f.of f.sub false)) []
  else if f.kind = 10 ∧ 0 ≤ f.null then (if nullS f v t = true then .mk 0 [] true [] [] else pt f.sub t)
  else cn1 pt f.kind f.sub (nullS f v t) t
def cnL (pt : List Fld → Tree → Tree) (dp : List Fld → Tree) (v : Int) (t : Tree) : List Fld → Nat → List Tree
  | [],_ => []
  | f :: fs,i => (if f.tag < 0 ∧ hasS f v = true then cnF pt v f (t.at i) else dfF dp f) :: cnL pt dp v t fs (i + 1)
def cnP : Nat → Int → Bool → List Fld → Tree → Tree
  | 0,_,_,_,_ => .zero
  | d + 1,v,flex,fs,t => .mk 0 [] false (cnL (cnP d v flex) (dfP d) v t fs 0) (if flex = true then (unknownS fs t.u).map fun u => (u.1,wholeS u.2) else [])

def numK (k : Int) : Prop := k = 1 ∨ k = 2 ∨ k = 3 ∨ k = 4 ∨ k = 5 ∨ k = 6
instance (k : Int) : Decidable (numK k) := by unfold numK;infer_instance
theorem rdLen_counted (flex null : Bool) (m : Nat) (r : List UInt8) (hm : m ≤ 32767) :
    rdLen flex .i16 2 (some (countedS flex null m 2 ++ r)) = (if null = true then -1 else (m : Int),some r) ∧ rdLen flex .i32 4 (some (countedS flex null m 4 ++ r)) = (if null = true then -1 else (m : Int),some r) := by
  cases flex with
  | true =>
    rw [rdLen_t,rdLen_t]
    cases null with
    | true =>
      have : ∀ n,countedS true true m n = uvarS 0 := fun n => by rw [counted_none,if_pos rfl,uvarS_small (by omega)];rfl
      rw [this,this,rdUv_uvar 0 r (by omega)];exact ⟨rfl,rfl⟩
    | false =>
      have : ∀ n,countedS true false m n = uvarS (m + 1) := fun n => by rw [counted_some,if_pos rfl]
      rw [this,this,rdUv_uvar (m + 1) r (by omega)]
      simp
  | false =>
    rw [rdLen_f,rdLen_f]
    cases null with
    | true =>
      have : ∀ n,countedS false true m n = fixedS (-1) n := fun n => by rw [counted_none];simp
      rw [this,this,rd_i16,rd_i32];exact ⟨rfl,rfl⟩
    | false =>
      have : ∀ n,countedS false false m n = fixedS m n := fun n => by rw [counted_some];simp
      rw [this,this,rd_i16,rd_i32]
      rw [i16_wrap (by omega),i32_wrap (by omega)]
      simp
theorem rdCnt_counted (flex null : Bool) (m : Nat) (r : List UInt8) (hm : m ≤ 32767) : rdCnt flex (some (countedS flex null m 4 ++ r)) = (if null = true then -1 else (m : Int),some r) := by
  have h := (rdLen_counted flex null m r hm).2
  cases flex with
  | true =>
    rw [rdLen_t] at h
    rw [rdCnt_t]
    simp only [Prod.mk.injEq] at h ⊢
    refine ⟨?_,h.2⟩
    have h1 := h.1
    cases null with
    | true =>
      simp only [if_true] at h1 ⊢
      rw [show (((rdUv (some (countedS true true m 4 ++ r))).1 : Nat) : Int) = 0 by omega];rfl
    | false =>
      simp only [Bool.false_eq_true,if_false] at h1 ⊢
      rw [show (((rdUv (some (countedS true false m 4 ++ r))).1 : Nat) : Int) = (m : Int) + 1 by omega,i32_wrap (x := (m : Int) + 1) (by omega),i32_wrap (x := (m : Int) + 1 - 1) (by omega)]
      omega
  | false => rw [rdLen_f] at h;rw [rdCnt_f];exact h

section
variable {pr : List Fld → St → Tree × St} {pw : List Fld → Int → Bool → Tree → List UInt8} {pc : List Fld → Tree → Tree} {v : Int} {flex : Bool}
theorem rd1_value (kind : Int) (sub : List Fld) (null may : Bool) (t : Tree) (r : List UInt8) (hk : kind = 0 ∨ numK kind ∨ (7 ≤ kind ∧ kind ≤ 10)) (hm : null = true → may = true) (hp : kind = 10 → pr sub (some (pw sub v flex t ++ r)) = (pc sub t,some r)) :
    rd1 pr kind sub may flex (some (valueS pw kind sub null v flex t ++ r)) = (cn1 pc kind sub null t,some r) := by
  have hwl := wholeS_len t.s
  have hl := fun m h => rdLen_counted flex null m (((if null = true then [] else wholeS t.s)) ++ r) h
  have hs : ∀ (s : List UInt8),s = (if null = true then [] else wholeS t.s) → s.length ≤ 32767 := fun s e => by
    rw [e];split
    · simp
    · exact hwl
  by_cases h0 : kind = 0
  · subst h0
    have e1 : valueS pw 0 sub null v flex t = [b8 (t.n % 2)] := by simp [valueS]
    have e2 : cn1 pc 0 sub null t = .num (t.n % 2) := by simp [cn1]
    have e3 : ∀ st,rd1 pr 0 sub may flex st = (.num (if beN (rdN 1 st).1 = 0 then 0 else 1),(rdN 1 st).2) := fun st => by simp [rd1]
    rw [e1,e2,e3,rdN_app 1 _ r rfl]
    simp only [beN_1]
    have hb := b8_toNat (t.n % 2)
    congr 2
    split <;> omega
  by_cases h7 : kind = 7
  · subst h7
    have e1 : valueS pw 7 sub null v flex t = uuidS t.s := by simp [valueS,uuidS]
    have e2 : cn1 pc 7 sub null t = .oct false (uuidS t.s) := by simp [cn1]
    have e3 : ∀ st,rd1 pr 7 sub may flex st = (.oct false (uuidS (rdSpan 16 st).1),(rdSpan 16 st).2) := fun st => by simp [rd1]
    rw [e1,e2,e3,rdSpan_16]
    have e : uuidS (uuidS t.s) = uuidS t.s := by
      have hu := uuidS_len t.s
      generalize uuidS t.s = x at *
      unfold uuidS
      rw [List.take_of_length_le (by omega),hu]
      simp
    simp only [e]
  by_cases h8 : kind = 8
  · subst h8
    obtain ⟨s,es⟩ : ∃ s,s = (if null = true then [] else wholeS t.s) := ⟨_,rfl⟩
    have e1 : valueS pw 8 sub null v flex t = countedS flex null s.length 2 ++ s := by rw [es];simp [valueS]
    have e2 : cn1 pc 8 sub null t = .oct null s := by rw [es];simp [cn1]
    have e3 : ∀ st,rd1 pr 8 sub may flex st = if may = true then (.oct (rdNStr flex st).1.1 (rdNStr flex st).1.2,(rdNStr flex st).2) else (.oct false (rdStr flex st).1,(rdStr flex st).2) := fun st => by simp [rd1]
    rw [e1,e2,e3]
    rw [← es] at hl
    have hL := (hl s.length (hs s es)).1
    rw [← List.append_assoc] at hL
    have hst : null = false → rdStr flex (some (countedS flex null s.length 2 ++ s ++ r)) = (s,some r) := fun hn => by
      unfold rdStr;rw [hL,hn];exact rdSpan_app s r
    cases null with
    | true =>
      have := hm rfl;subst this
      simp only [if_true] at hL es ⊢
      unfold rdNStr
      rw [hL]
      simp only
      rw [if_pos (by decide)]
      subst es;rfl
    | false =>
      have hst := hst rfl
      cases may with
      | false => simp only [Bool.false_eq_true,if_false,hst]
      | true =>
        simp only [if_true]
        unfold rdNStr
        rw [hL,hst]
        simp only [Bool.false_eq_true,if_false]
        rw [if_neg (by omega)]
  by_cases h9 : kind = 9
  · subst h9
    obtain ⟨s,es⟩ : ∃ s,s = (if null = true then [] else wholeS t.s) := ⟨_,rfl⟩
    have e1 : valueS pw 9 sub null v flex t = countedS flex null s.length 4 ++ s := by rw [es];simp [valueS]
    have e2 : cn1 pc 9 sub null t = .oct null s := by rw [es];simp [cn1]
    have e3 : ∀ st,rd1 pr 9 sub may flex st = if may = true then (.oct (rdNBytes flex st).1.1 (rdNBytes flex st).1.2,(rdNBytes flex st).2) else (.oct (rdBytes flex st).1.1 (rdBytes flex st).1.2,(rdBytes flex st).2) := fun st => by simp [rd1]
    rw [e1,e2,e3]
    rw [← es] at hl
    have hL := (hl s.length (hs s es)).2
    rw [← List.append_assoc] at hL
    have hst : null = false → rdOct flex (some (countedS flex null s.length 4 ++ s ++ r)) = (s,some r) := fun hn => by
      unfold rdOct;rw [hL,hn];exact rdSpan_app s r
    cases null with
    | true =>
      have := hm rfl;subst this
      simp only [if_true] at hL es ⊢
      unfold rdNBytes
      rw [hL]
      simp only
      rw [if_pos (by decide)]
      subst es;rfl
    | false =>
      have hst := hst rfl
      cases may with
      | false =>
        simp only [Bool.false_eq_true,if_false]
        unfold rdBytes
        rw [hL,hst]
        simp only [Bool.false_eq_true,if_false]
        rw [if_neg (by omega)]
        rfl
      | true =>
        simp only [if_true]
        unfold rdNBytes
        rw [hL,hst]
        simp only [Bool.false_eq_true,if_false]
        rw [if_neg (by omega)]
        rfl
  by_cases h10 : kind = 10
  · subst h10
    have e1 : valueS pw 10 sub null v flex t = pw sub v flex t := by simp [valueS]
    have e2 : cn1 pc 10 sub null t = pc sub t := by simp [cn1]
    have e3 : ∀ st,rd1 pr 10 sub may flex st = pr sub st := fun st => by simp [rd1]
    rw [e1,e2,e3];exact hp rfl
  have hn : numK kind := by rcases hk with h | h | h <;> first | exact h | omega
  rcases hn with h | h | h | h | h | h <;> subst h
  · have := rd_i8 t.n r;simp [rd1,valueS,cn1,kindK,widthS,this]
  · have := rd_i16 t.n r;simp [rd1,valueS,cn1,kindK,widthS,this]
  · have := rd_i32 t.n r;simp [rd1,valueS,cn1,kindK,widthS,this]
  · have := rd_i64 t.n r;simp [rd1,valueS,cn1,kindK,widthS,this]
  · have := rd_u16 t.n r;simp [rd1,valueS,cn1,kindK,widthS,this]
  · have := rd_i64 t.n r;simp [rd1,valueS,cn1,kindK,widthS,this]
theorem valueS_pos (kind : Int) (sub : List Fld) (null : Bool) (t : Tree) (hk : kind = 0 ∨ numK kind ∨ (7 ≤ kind ∧ kind ≤ 10)) (hp : kind = 10 → 1 ≤ (pw sub v flex t).length) : 1 ≤ (valueS pw kind sub null v flex t).length := by
  have hc : ∀ n m,1 ≤ n → 1 ≤ (countedS flex null m n).length := fun n m hn => by
    unfold countedS
    split
    · simp
    · split
      · exact uvarS_pos _
      · split <;> rw [fixedS_len] <;> omega
  unfold valueS
  split
  · simp
  · split
    · simp;omega
    · split
      · rw [List.length_append];have := hc 2 (if null = true then [] else wholeS t.s).length (by omega);omega
      · split
        · rw [List.length_append];have := hc 4 (if null = true then [] else wholeS t.s).length (by omega);omega
        · split
          · rename_i h;exact hp h
          · rw [fixedS_len];unfold widthS;repeat (first | omega | split)
theorem rdMany_values (kind : Int) (sub : List Fld) (hk : kind = 0 ∨ numK kind ∨ (7 ≤ kind ∧ kind ≤ 10)) : ∀ (l : List Tree) (r : List UInt8),(∀ x ∈ l,kind = 10 → ∀ r,pr sub (some (pw sub v flex x ++ r)) = (pc sub x,some r)) →
    rdMany (rd1 pr kind sub false flex) l.length (some (l.flatMap (fun x => valueS pw kind sub false v flex x) ++ r)) = (l.map (cn1 pc kind sub false),some r)
  | [],r,_ => rfl
  | x :: l,r,h => by
    have h1 := rd1_value (pr := pr) (pw := pw) (pc := pc) (v := v) (flex := flex) kind sub false false x (l.flatMap (fun x => valueS pw kind sub false v flex x) ++ r) hk (fun h => h) (fun hk => h x (by simp) hk _)
    have h2 := rdMany_values kind sub hk l r fun y hy => h y (by simp [hy])
    rw [List.length_cons,List.flatMap_cons,List.append_assoc,rdMany,h1]
    simp only [h2,List.map_cons]
theorem rdF_field (f : Fld) (t : Tree) (r : List UInt8) (hk : f.kind = 11 ∨ f.kind = 0 ∨ numK f.kind ∨ (7 ≤ f.kind ∧ f.kind ≤ 10)) (ho : f.of = 0 ∨ numK f.of ∨ (7 ≤ f.of ∧ f.of ≤ 10))
    (hp : ∀ x,(f.kind = 10 ∧ x = t) ∨ (f.kind = 11 ∧ f.of = 10 ∧ x ∈ t.l) → ∀ r,pr f.sub (some (pw f.sub v flex x ++ r)) = (pc f.sub x,some r)) (hpos : f.kind = 11 → f.of = 10 → ∀ x ∈ t.l,1 ≤ (pw f.sub v flex x).length) :
    rdF pr v flex f (some (fieldS pw f v flex t ++ r)) = (cnF pc v f t,some r) := by
  unfold rdF cnF fieldS
  by_cases h11 : f.kind = 11
  · rw [if_pos h11,if_pos h11,if_pos h11]
    unfold rdList
    obtain ⟨l,hl⟩ : ∃ l,l = (if nullS f v t = true then [] else thingsS t.l) := ⟨_,rfl⟩
    have hmem : ∀ x ∈ l,x ∈ t.l := fun x hx => by
      rw [hl] at hx
      split at hx
      · cases hx
      · exact List.mem_of_mem_take hx
    have hlen : l.length ≤ 32767 := by
      rw [hl];split
      · simp
      · simp only [thingsS,List.length_take];omega
    rw [← hl,List.append_assoc]
    have hc := rdCnt_counted flex (nullS f v t) l.length (l.flatMap (fun x => valueS pw f.of f.sub false v flex x) ++ r) hlen
    have hge : l.length ≤ (l.flatMap fun x => valueS pw f.of f.sub false v flex x).length := by
      have : ∀ (l : List Tree),(∀ x ∈ l,x ∈ t.l) → l.length ≤ (l.flatMap fun x => valueS pw f.of f.sub false v flex x).length := by
        intro l
        induction l with
        | nil => intro _;simp
        | cons x l ih =>
          intro h
          have h1 := valueS_pos (pw := pw) (v := v) (flex := flex) f.of f.sub false x ho (fun h10 => hpos h11 h10 x (h x (by simp)))
          have h2 := ih fun y hy => h y (by simp [hy])
          rw [List.flatMap_cons,List.length_append,List.length_cons];omega
      exact this l hmem
    have ha : rdALen flex (some (countedS flex (nullS f v t) l.length 4 ++ (l.flatMap (fun x => valueS pw f.of f.sub false v flex x) ++ r))) = (if nullS f v t = true then -1 else (l.length : Int),some (l.flatMap (fun x => valueS pw f.of f.sub false v flex x) ++ r)) := by
      unfold rdALen
      rw [hc,if_neg]
      simp only [stLen,Option.getD_some,List.length_append]
      split <;> omega
    have hM := rdMany_values (pr := pr) (pw := pw) (pc := pc) (v := v) (flex := flex) f.of f.sub ho l r fun x hx h10 r => hp x (.inr ⟨h11,h10,hmem x hx⟩) r
    rw [ha]
    have hq : (if nullS f v t = true then (-1 : Int) else (l.length : Int)).toNat = l.length := by
      split
      · rename_i h;rw [if_pos h] at hl;rw [hl];rfl
      · simp
    simp only [hq,hM]
    congr 1
    cases hnu : nullS f v t with
    | true => rw [hnu] at hl;simp only [if_true] at hl;subst hl;rfl
    | false => rw [hnu] at hl;simp only [Bool.false_eq_true,if_false] at hl;subst hl;rfl
  by_cases hn : f.kind = 10 ∧ 0 ≤ f.null
  · rw [if_neg h11,if_neg h11,if_neg h11,if_pos hn,if_pos hn,if_pos hn]
    cases hq : nullS f v t with
    | true =>
      simp only [if_true]
      have h := rd_i8 (-1) r
      unfold rdOpt
      rw [h,if_pos (.inl rfl)]
    | false =>
      simp only [Bool.false_eq_true,if_false,List.append_assoc]
      have h := rd_i8 1 (pw f.sub v flex t ++ r)
      unfold rdOpt
      rw [h,if_neg (fun h => h.elim (fun h => absurd (show (1 : Int) = -1 from h) (by decide)) (fun h => by cases h))]
      exact hp t (.inl ⟨hn.1,rfl⟩) r
  · rw [if_neg h11,if_neg h11,if_neg h11,if_neg hn,if_neg hn,if_neg hn]
    refine rd1_value f.kind f.sub (nullS f v t) (mayS f v) t r (by rcases hk with h | h | h | h <;> first | exact absurd h h11 | simp [h]) (fun h => ?_) (fun h10 => hp t (.inl ⟨h10,rfl⟩) r)
    unfold nullS at h
    unfold mayS
    simp only [Bool.and_eq_true,decide_eq_true_eq] at h ⊢
    exact ⟨h.1.2,h.2⟩
end

theorem Sized.el {N : Nat} {t : Tree} (h : Sized N t) {k : Nat} (hk : k < t.l.length) : ∃ M,Sized M t.l[k] := by
  cases h with
  | mk ns hl he hk' hN => exact ⟨_,he k hk (by simp only [Tree.l] at hk;omega)⟩
theorem rdTag_unk (u : List TagD) (x : TagD) (r : List UInt8) (hk : x.1 < 4294967296) : rdTag u (some (unkT x ++ r)) = (tagPut u (x.1,wholeS x.2),some r) := by
  have hw := wholeS_len x.2
  have e : unkT x ++ r = uvarS x.1 ++ (uvarS (wholeS x.2).length ++ (wholeS x.2 ++ r)) := by simp [unkT,oneTag]
  unfold rdTag
  rw [e,rdUv_uvar _ _ hk]
  simp only
  rw [rdUv_uvar _ _ (by omega)]
  simp only
  rw [rdSpan_app]
theorem rdTagsN_unk : ∀ (l acc : List TagD) (r : List UInt8),(∀ x ∈ l,x.1 < 4294967296) → (∀ x ∈ l,∀ y ∈ acc,y.1 ≠ x.1) → l.Pairwise (fun a b => a.1 ≠ b.1) →
    rdTagsN l.length acc (some (l.flatMap unkT ++ r)) = (acc ++ l.map fun u => (u.1,wholeS u.2),some r)
  | [],acc,r,_,_,_ => by simp [rdTagsN]
  | x :: l,acc,r,h1,h2,h3 => by
    rw [List.length_cons,List.flatMap_cons,List.append_assoc,rdTagsN,rdTag_unk acc x _ (h1 x (by simp))]
    have hn : tagPut acc (x.1,wholeS x.2) = acc ++ [(x.1,wholeS x.2)] := tagPut_new fun z hz => h2 x (by simp) z hz
    simp only [hn]
    rw [List.pairwise_cons] at h3
    rw [rdTagsN_unk l _ r (fun y hy => h1 y (by simp [hy])) (fun y hy z hz => by
      rcases List.mem_append.1 hz with hz | hz
      · exact h2 y (by simp [hy]) z hz
      · simp only [List.mem_singleton] at hz;rw [hz];exact h3.1 y hy) h3.2]
    simp
theorem rdTags_unk (fs : List Fld) (u : List TagD) (r : List UInt8) (hk : ∀ x ∈ u,x.1 < 4294967296) :
    rdTags (some (uvarS (unknownS fs u).length ++ ((unknownS fs u).flatMap unkT ++ r))) = ((unknownS fs u).map fun u => (u.1,wholeS u.2),some r) := by
  have h := unknownS_spec fs u
  have hl := unknownS_len' fs u
  unfold rdTags
  rw [rdUv_uvar _ _ (by omega)]
  simp only
  rw [rdTagsN_unk _ _ _ (fun x hx => hk x (h.2 x hx).1) (fun _ _ _ h => by cases h) (h.1.imp fun h => by omega)]
  simp

def wideS (v : Int) (flex : Bool) (fs : List Fld) : Bool := flex || fs.any fun f => decide (f.tag < 0) && hasS f v
def okR : Nat → Int → Bool → List Fld → Bool
  | 0,_,_,fs => fs.isEmpty
  | d + 1,v,flex,fs => fs.all fun f => decide (f.tag < 0 ∧ (f.kind = 11 ∨ f.kind = 0 ∨ numK f.kind ∨ (7 ≤ f.kind ∧ f.kind ≤ 10)) ∧ (f.of = 0 ∨ numK f.of ∨ (7 ≤ f.of ∧ f.of ≤ 10))) && okR d v flex f.sub && (!(hasS f v) || wideS v flex f.sub || decide (¬ (f.kind = 10 ∨ (f.kind = 11 ∧ f.of = 10))))
theorem okR_el {d : Nat} {v : Int} {flex : Bool} {fs : List Fld} (h : okR (d + 1) v flex fs = true) {f : Fld} (hf : f ∈ fs) :
    f.tag < 0 ∧ (f.kind = 11 ∨ f.kind = 0 ∨ numK f.kind ∨ (7 ≤ f.kind ∧ f.kind ≤ 10)) ∧ (f.of = 0 ∨ numK f.of ∨ (7 ≤ f.of ∧ f.of ≤ 10)) ∧ True ∧ okR d v flex f.sub = true ∧ (hasS f v = true → (f.kind = 10 ∨ (f.kind = 11 ∧ f.of = 10)) → wideS v flex f.sub = true) := by
  simp only [okR,List.all_eq_true] at h
  have := h f hf
  rw [Bool.and_eq_true,Bool.and_eq_true,decide_eq_true_eq] at this
  obtain ⟨⟨⟨h1,h2,h3⟩,h5⟩,h6⟩ := this
  refine ⟨h1,h2,h3,trivial,h5,fun h7 h8 => ?_⟩
  rw [h7] at h6
  simp only [Bool.not_true,Bool.false_or,Bool.or_eq_true,decide_eq_true_eq] at h6
  rcases h6 with h6 | h6
  · exact h6
  · exact absurd h8 h6
section
variable {pr : List Fld → St → Tree × St} {pw : List Fld → Int → Bool → Tree → List UInt8} {pc : List Fld → Tree → Tree} {v : Int} {flex : Bool}
theorem fieldS_pos (f : Fld) (t : Tree) (hk : f.kind = 11 ∨ f.kind = 0 ∨ numK f.kind ∨ (7 ≤ f.kind ∧ f.kind ≤ 10)) (hp : f.kind = 10 → 1 ≤ (pw f.sub v flex t).length) : 1 ≤ (fieldS pw f v flex t).length := by
  unfold fieldS
  by_cases h11 : f.kind = 11
  · rw [if_pos h11,List.length_append]
    have hc : ∀ m,1 ≤ (countedS flex (nullS f v t) m 4).length := fun m => by
      unfold countedS
      split
      · simp
      · split
        · exact uvarS_pos _
        · split <;> rw [fixedS_len] <;> omega
    have := hc (if nullS f v t = true then [] else thingsS t.l).length
    omega
  by_cases hn : f.kind = 10 ∧ 0 ≤ f.null
  · rw [if_neg h11,if_pos hn]
    split
    · rw [fixedS_len];omega
    · rw [List.length_append,fixedS_len];omega
  · rw [if_neg h11,if_neg hn]
    exact valueS_pos _ _ _ _ (by rcases hk with h | h | h | h <;> first | exact absurd h h11 | simp [h]) hp
theorem rdL_plain (dp : List Fld → Tree) (t : Tree) : ∀ (fs : List Fld) (i : Nat) (r : List UInt8),
    (∀ f ∈ fs,hasS f v = true → ∀ (i : Nat) (r : List UInt8),rdF pr v flex f (some (fieldS pw f v flex (t.at i) ++ r)) = (cnF pc v f (t.at i),some r)) →
    rdL pr dp v flex fs (some (plainL pw v flex t fs i ++ r)) = (cnL pc dp v t fs i,some r)
  | [],_,r,_ => rfl
  | f :: fs,i,r,h => by
    have ih := fun r => rdL_plain dp t fs (i + 1) r fun g hg => h g (by simp [hg])
    rw [rdL,plainL,cnL]
    by_cases hc : f.tag < 0 ∧ hasS f v = true
    · rw [if_pos hc,if_pos hc,if_pos hc,List.append_assoc,h f (by simp) hc.2 i _]
      simp only [ih]
    · rw [if_neg hc,if_neg hc,if_neg hc,List.nil_append]
      simp only [ih]
end
theorem rdP_part (v : Int) (flex : Bool) : ∀ (d : Nat) (fs : List Fld) (N : Nat) (t : Tree),okR d v flex fs = true → Sized N t →
    (∀ r,rdP (d + 1) v flex fs (some (partS (d + 1) fs v flex t ++ r)) = (cnP (d + 1) v flex fs t,some r)) ∧ (wideS v flex fs = true → 1 ≤ (partS (d + 1) fs v flex t).length) := by
  intro d
  have key : ∀ (d : Nat) (fs : List Fld) (t : Tree),(∀ f ∈ fs,f.tag < 0) → (∀ x ∈ t.u,x.1 < 4294967296) →
      (∀ f ∈ fs,hasS f v = true → ∀ (i : Nat) (r : List UInt8),rdF (rdP d v flex) v flex f (some (fieldS (partS d) f v flex (t.at i) ++ r)) = (cnF (cnP d v flex) v f (t.at i),some r)) →
      (∀ f ∈ fs,hasS f v = true → ∀ (i : Nat),1 ≤ (fieldS (partS d) f v flex (t.at i)).length) →
      (∀ r,rdP (d + 1) v flex fs (some (partS (d + 1) fs v flex t ++ r)) = (cnP (d + 1) v flex fs t,some r)) ∧ (wideS v flex fs = true → 1 ≤ (partS (d + 1) fs v flex t).length) := by
    intro d fs t htag hu h hpos
    have hk := knownS_none htag
    have e2 : tagsS (partS d) (d + 1) fs v flex t = [] := by unfold tagsS;rw [hk];rfl
    have hp := fun r => rdL_plain (pr := rdP d v flex) (pw := partS d) (pc := cnP d v flex) (flex := flex) (dfP d) t fs 0 r h
    constructor
    · intro r
      rw [partS_eq]
      unfold partT
      rw [plainS_L,e2]
      rw [rdP,cnP]
      cases flex with
      | true =>
        simp only [if_true,List.length_nil,Nat.zero_add,List.flatMap_nil,List.nil_append,List.append_assoc]
        rw [hp]
        simp only [rdTags_unk fs t.u r hu]
      | false =>
        simp only [Bool.false_eq_true,if_false]
        rw [hp]
    · intro hw
      rw [partS_eq]
      unfold partT
      cases flex with
      | true =>
        rw [if_pos rfl,List.length_append,List.length_append]
        have := uvarS_pos ((tagsS (partS d) (d + 1) fs v true t).length + (unknownS fs t.u).length)
        omega
      | false =>
        rw [if_neg (by decide),plainS_L]
        simp only [wideS,Bool.false_or,List.any_eq_true,Bool.and_eq_true,decide_eq_true_eq] at hw
        obtain ⟨f,hf,h1,h2⟩ := hw
        have : ∀ (l : List Fld) (i : Nat),f ∈ l → (∀ g ∈ l,g ∈ fs) → 1 ≤ (plainL (partS d) v false t l i).length := by
          intro l
          induction l with
          | nil => intro _ h;cases h
          | cons g l ih =>
            intro i hm hs
            rw [plainL,List.length_append]
            rcases List.mem_cons.1 hm with rfl | hm
            · rw [if_pos ⟨h1,h2⟩]
              have := hpos f hf h2 i
              omega
            · have := ih (i + 1) hm fun g hg => hs g (by simp [hg])
              omega
        exact this fs 0 hf fun _ h => h
  induction d with
  | zero =>
    intro fs N t h hs
    have hnil : fs = [] := by simpa [okR] using h
    subst hnil
    have hu : ∀ x ∈ t.u,x.1 < 4294967296 := by
      cases hs with
      | mk ns hl he hk hN => exact hk
    exact key 0 [] t (fun _ h => by cases h) hu (fun _ h => by cases h) (fun _ h => by cases h)
  | succ d ih =>
    intro fs N t h hs
    have hu : ∀ x ∈ t.u,x.1 < 4294967296 := by
      cases hs with
      | mk ns hl he hk hN => exact hk
    have sub : ∀ (f : Fld) (i : Nat),okR d v flex f.sub = true → ∀ x,(f.kind = 10 ∧ x = t.at i) ∨ (f.kind = 11 ∧ f.of = 10 ∧ x ∈ (t.at i).l) → ∃ M,Sized M x := by
      intro f i _ x hx
      have ha := hs.at i
      rcases hx with ⟨_,rfl⟩ | ⟨_,_,hx⟩
      · exact ⟨_,ha⟩
      · obtain ⟨k,hk,rfl⟩ := List.getElem_of_mem hx
        exact ha.el hk
    refine key (d + 1) fs t (fun f hf => (okR_el h hf).1) hu (fun f hf hh i r => ?_) (fun f hf hh i => ?_)
    · obtain ⟨g1,g2,g3,g4,g5,g6⟩ := okR_el h hf
      refine rdF_field f (t.at i) r g2 g3 (fun x hx r => ?_) (fun h11 h10 x hx => ?_)
      · obtain ⟨M,hM⟩ := sub f i g5 x hx
        exact (ih f.sub M x g5 hM).1 r
      · obtain ⟨M,hM⟩ := sub f i g5 x (.inr ⟨h11,h10,hx⟩)
        exact (ih f.sub M x g5 hM).2 (g6 hh (.inr ⟨h11,h10⟩))
    · obtain ⟨g1,g2,g3,g4,g5,g6⟩ := okR_el h hf
      refine fieldS_pos f (t.at i) g2 fun h10 => ?_
      obtain ⟨M,hM⟩ := sub f i g5 (t.at i) (.inl ⟨h10,rfl⟩)
      exact (ih f.sub M (t.at i) g5 hM).2 (g6 hh (.inl h10))

def numS (k n : Int) : Int := if k = 0 then n % 2 else wrapN k n
def DfF (D : List Fld → Tree → Prop) (f : Fld) (x : Tree) : Prop :=
  if f.kind = 8 then x.null = decide (0 ≤ f.null) ∧ x.s = []
  else if f.kind = 7 then x.s = uuidS []
  else if f.kind = 9 ∨ f.kind = 11 then x.s = [] ∧ x.l = []
  else if f.kind = 10 then (0 ≤ f.null → x.null = true) ∧ (f.null < 0 → D f.sub x)
  else x.n = numS f.kind f.df
def DfP : Nat → List Fld → Tree → Prop
  | 0,_,_ => False
  | d + 1,fs,g => g.u = [] ∧ ∀ i (h : i < fs.length),DfF (DfP d) fs[i] (g.at i)
def Told1 (T : List Fld → Tree → Tree → Prop) (kind : Int) (sub : List Fld) (t g : Tree) : Prop :=
  if kind = 8 ∨ kind = 9 then g.s = wholeS t.s
  else if kind = 7 then g.s = uuidS t.s
  else if kind = 10 then T sub t g
  else g.n = numS kind t.n
def ToldF (T : List Fld → Tree → Tree → Prop) (v : Int) (f : Fld) (t g : Tree) : Prop :=
  ((f.kind = 8 ∨ f.kind = 10 ∨ mayS f v = true) → g.null = nullS f v t) ∧
  (nullS f v t = false → if f.kind = 11 then g.l.length = (thingsS t.l).length ∧ ∀ i (h : i < (thingsS t.l).length),(f.of = 8 ∨ f.of = 10 → (g.at i).null = false) ∧ Told1 T f.of f.sub (thingsS t.l)[i] (g.at i)
    else Told1 T f.kind f.sub t g)
def liveS (d : Nat) (v : Int) (flex : Bool) (f : Fld) (t : Tree) : Bool := (decide (f.tag < 0) && hasS f v) || (decide (0 ≤ f.tag) && (flex && !(usualS d f t)))
def ToldP : Nat → Int → Bool → List Fld → Tree → Tree → Prop
  | 0,_,_,_,_,_ => False
  | d + 1,v,flex,fs,t,g => g.l.length = fs.length ∧ g.u = (if flex = true then (unknownS fs t.u).map fun u => (u.1,wholeS u.2) else []) ∧
    ∀ i (h : i < fs.length),if liveS (d + 1) v flex fs[i] (t.at i) = true then ToldF (ToldP d v flex) v fs[i] (t.at i) (g.at i) else DfF (DfP d) fs[i] (g.at i)

/-! ### Rows in memory -/
theorem SlR.litO {α : Type} {ok : Blocks} {w : World} {size b : Nat} {fr : Nat × Nat} {T : TypeId} {R : α → List Value → Prop} {xs : List α} {css : List (List Value)} (hok : ok b) (h : blk w b = some (css.flatten.toArray,T,fr)) (hl : ∀ cs ∈ css,cs.length = size) (ha : All2 R xs css) :
    SlR ok w size R (.slice (some ⟨b,0,none⟩) xs.length xs.length) xs := by
  refine ⟨css,⟨some ⟨b,0,none⟩,xs.length,by rw [ha.1],by rw [ha.1];exact Nat.le_refl _,hl,.inr ⟨_,rfl,rfl,hok,_,h,fun i hi => ?_⟩⟩,ha⟩
  simp only [Nat.zero_add,List.getElem?_toArray]
theorem All2.one {α β : Type} {R : α → β → Prop} {x : α} {y : β} (h : R x y) : All2 R [x] [y] :=
  ⟨rfl,fun i h1 h2 => by
    obtain rfl : i = 0 := by simp at h1;exact h1
    exact h⟩
theorem FldsV.one {w : World} {b : Nat} {fr : Nat × Nat} {T : TypeId} {f : Fld} {vs : Value} (h : blk w b = some (#[.int .i64 f.kind,.int .i64 f.fr,.int .i64 f.to,.int .i64 f.null,.int .i64 f.tag,.int .i64 f.df,.int .i64 f.of,vs],T,fr)) (hs : FldsV AnyB w vs f.sub) : FldsV AnyB w (.slice (some ⟨b,0,Option.none⟩) 1 1) [f] :=
  SlR.litO (css := [[.int .i64 f.kind,.int .i64 f.fr,.int .i64 f.to,.int .i64 f.null,.int .i64 f.tag,.int .i64 f.df,.int .i64 f.of,vs]]) trivial h (fun cs hm => by simp only [List.mem_singleton] at hm;subst hm;rfl) (All2.one (by cases f;exact FldC.intro hs))
theorem TreesV.one {w : World} {b : Nat} {fr : Nat × Nat} {T : TypeId} {x : Tree} {c0 c1 c2 c3 c4 : Value} (h : blk w b = some (#[c0,c1,c2,c3,c4],T,fr)) (hx : TreeC AnyB w x [c0,c1,c2,c3,c4]) : TreesV AnyB w (.slice (some ⟨b,0,Option.none⟩) 1 1) [x] :=
  SlR.litO (css := [[c0,c1,c2,c3,c4]]) trivial h (fun cs hm => by simp only [List.mem_singleton] at hm;subst hm;rfl) (All2.one hx)
theorem wr16 (s : List UInt8) : wrArr (List.replicate (16 * 1) (Value.int IntKind.u8 0)).toArray 0 ((s.take 16).map byteV) = ((uuidS s).map byteV).toArray := by
  apply Array.ext_getElem?
  intro k
  rw [wrArr_get]
  unfold uuidS
  simp only [List.size_toArray,List.length_replicate,List.getElem?_toArray,List.length_map,List.length_take,List.map_append,List.map_replicate,Nat.mul_one]
  have hb0 : byteV 0 = Value.int IntKind.u8 0 := rfl
  rw [hb0]
  simp only [List.getElem?_append,List.length_map,List.length_take,List.getElem?_replicate]
  by_cases h1 : k < min 16 s.length
  · rw [if_pos (by omega),if_pos h1];rfl
  · rw [if_neg (by omega),if_neg h1]
    by_cases h2 : k < 16
    · rw [if_pos h2,if_pos (by omega)]
    · rw [if_neg h2,if_neg (by omega)]
theorem OwnE.tags {B : Nat} {w : World} {E : TypeId} {v : Value} {css : List (List Value)} {ts : List TagD} {ok : Blocks} (h : OwnE B w E 2 v css) (ha : All2 (TagC ok w) ts css) : TagsV AnyB w v ts :=
  ⟨css,h.sl fun _ _ => trivial,ha.imp fun _ _ h => h.weaken fun _ _ _ => trivial⟩
theorem W.regO {P : Program} {n id : Nat} {ops : Array Oper} {Q : Exit → Regs → World → Prop} {ρ : Regs} {w : World} (k : Nat) (hf : fitsL n ops.toList = true)
    (h : ∀ O DD,O = ops → DD = ops.toList.drop k → WPsq P O (ops.toList.take k ++ DD) (Q .normal) ρ w) : W P n (.region id ops false) Q ρ w := by
  have := h ops _ rfl rfl
  rw [List.take_append_drop] at this
  exact W.regR hf this
end Ms

