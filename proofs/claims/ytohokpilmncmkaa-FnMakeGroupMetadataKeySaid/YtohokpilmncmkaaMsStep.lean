/- The plain operations are sound: what 'stepK' asks suffices for the model's own operation; likewise for whole regions. -/
import Derived.Test.YtohokpilmncmkaaMsOps
set_option linter.unusedSimpArgs false
set_option linter.unusedVariables false
namespace Ms
open Go
section
variable {P : Program}

theorem under_bool {T : TypeId} (h : isBoolT P T = true) : P.underlying T = some .bool := by
  unfold isBoolT at h; split at h <;> simp_all
theorem under_slice {T : TypeId} (h : isSliceT P T = true) : ∃ e, P.underlying T = some (.slice e) := by
  unfold isSliceT at h; split at h <;> simp_all
theorem under_map {T : TypeId} (h : isMapT P T = true) : ∃ k e, P.underlying T = some (.map k e) := by
  unfold isMapT at h; split at h <;> simp_all
theorem under_ptr {T : TypeId} (h : isPtrT P T = true) : ∃ e, P.underlying T = some (.pointer e) := by
  unfold isPtrT at h; split at h <;> simp_all
theorem under_iface {T : TypeId} (h : isIfaceT P T = true) : ∃ e, P.underlying T = some (.interface e) := by
  unfold isIfaceT at h; split at h <;> simp_all

theorem eqV_cases {op : BinOp} {ok r : Bool} {v : Value} (h : eqV op ok r = some v) : ok = true ∧ ((op = .eql ∧ v = .bool r) ∨ (op = .neq ∧ v = .bool (!r))) := by
  unfold eqV at h
  split at h
  · rename_i hok
    refine ⟨hok, ?_⟩
    cases op <;> simp_all
  · cases h

theorem run_eql {T : TypeId} {a b : Value} {r : Bool} {w : World} (hn : ∀ op, binOp op T a b = match op with | .eql => (do pure (.bool (← Op.equal T a b))) | .neq => (do pure (.bool (!(← Op.equal T a b)))) | _ => binOp op T a b)
    (h : (Op.equal T a b).run P w = .ok r w) {op : BinOp} {v : Value} (ho : (op = .eql ∧ v = .bool r) ∨ (op = .neq ∧ v = .bool (!r))) : (binOp op T a b).run P w = .ok v w := by
  rcases ho with ⟨rfl, rfl⟩ | ⟨rfl, rfl⟩
  · rw [hn]; simp [h]
  · rw [hn]; simp [h]

theorem binV_sound {op : BinOp} {T : TypeId} {a b v : Value} (h : binV P op T a b = some v) (w : World) : (binOp op T a b).run P w = .ok v w := by
  unfold binV at h
  split at h
  · split at h
    · exact intOp_sound h w
    · cases h
  · split at h
    · obtain ⟨hok, ho⟩ := eqV_cases h
      refine run_eql (fun op => by cases op <;> rfl) ?_ ho
      unfold Op.equal Op.maxDepth
      rw [Op.equalIn]
      simp [run_underlying (under_bool hok)]
    · cases h
  · split at h
    · rename_i a n c _ c' n' d
      obtain ⟨hok, ho⟩ := eqV_cases h
      rw [Bool.and_eq_true] at hok
      obtain ⟨e, he⟩ := under_slice hok.1
      cases c' with
      | some x => simp at hok
      | none =>
      refine run_eql (fun op => by cases op <;> rfl) ?_ ho
      unfold Op.equal Op.maxDepth
      rw [Op.equalIn]
      cases a <;> simp [run_underlying he]
    · cases h
  · split at h
    · rename_i a _ c'
      obtain ⟨hok, ho⟩ := eqV_cases h
      rw [Bool.and_eq_true] at hok
      obtain ⟨k, e, he⟩ := under_map hok.1
      cases c' with
      | some x => simp at hok
      | none =>
      refine run_eql (fun op => by cases op <;> rfl) ?_ ho
      unfold Op.equal Op.maxDepth
      rw [Op.equalIn]
      cases a <;> simp [run_underlying he]
    · cases h
  · split at h
    · rename_i a _ c'
      obtain ⟨hok, ho⟩ := eqV_cases h
      rw [Bool.and_eq_true] at hok
      obtain ⟨e, he⟩ := under_ptr hok.1
      cases c' with
      | some x => simp at hok
      | none =>
      refine run_eql (fun op => by cases op <;> rfl) ?_ ho
      unfold Op.equal Op.maxDepth
      rw [Op.equalIn]
      cases a <;> simp [run_underlying he]
    · cases h
  · split at h
    · obtain ⟨hok, ho⟩ := eqV_cases h
      obtain ⟨e, he⟩ := under_iface hok
      refine run_eql (fun op => by cases op <;> rfl) ?_ ho
      unfold Op.equal Op.maxDepth
      rw [Op.equalIn]
      simp [run_underlying he]
    · cases h
  · cases h

theorem run_eqGuard_nil {op : BinOp} {T : TypeId} {x y : Operand} (hy : isConstO y = true) (w : World) :
    (eqGuard op T x y .nilIface .nilIface).run P w = .ok () w := by
  unfold eqGuard
  cases op <;> first | rfl | (cases y <;> first | (simp [isConstO] at hy; done) | (cases x <;> rfl))

theorem run_eqGuard_ne {op : BinOp} {T : TypeId} {x y : Operand} {a b v : Value} (h : binV P op T a b = some v) (w : World) :
    (eqGuard op T x y a b).run P w = .ok () w := by
  unfold binV at h
  unfold eqGuard
  split at h
  all_goals first | (cases h; done) | skip
  all_goals (split at h <;> first | (cases h; done) | skip)
  all_goals (cases op <;> rfl)

theorem binNil_sound {op : BinOp} {T : TypeId} {x y : Operand} {a b v : Value} (h : binNil P op T y a b = some v) (w : World) :
    (do eqGuard op T x y a b; binOp op T a b : Sem Value).run P w = .ok v w := by
  unfold binNil at h
  split at h
  · rename_i ha
    split at h
    · rename_i hb
      obtain rfl : a = .nilIface := by cases a <;> simp_all [isNilI]
      obtain rfl : b = .nilIface := by cases b <;> simp_all [isNilI]
      obtain ⟨hok, ho⟩ := eqV_cases h
      rw [Bool.and_eq_true] at hok
      obtain ⟨e, he⟩ := under_iface hok.1
      simp only [Sem.run_bind, run_eqGuard_nil hok.2, Result.andThen_ok]
      refine run_eql (fun op => by cases op <;> rfl) ?_ ho
      unfold Op.equal Op.maxDepth
      rw [Op.equalIn]
      simp [run_underlying he]
    · cases h
  · simp only [Sem.run_bind, run_eqGuard_ne h, Result.andThen_ok]
    exact binV_sound h w

theorem WPr_value {dst : Option Nat} {ρ : Regs} {K : Regs → World → Prop} {s : Sem Value} {v : Value} {w w' : World} (h : s.run P w = .ok v w') (hk : K (put ρ dst v) w') :
    WPr P dst ρ K ((do pure (.value (← s)) : Sem Next).run P w) := by
  simp only [Sem.run_bind, h, Result.andThen_ok]; exact hk

theorem addrK_elim {v : Value} {k : Addr → Prop} (h : addrK v k) : ∃ a, v = .pointer (some a) ∧ k a := by
  unfold addrK at h; split at h
  · exact ⟨_, rfl, h⟩
  · exact h.elim
theorem optK_elim {α : Type} {v : Option α} {k : α → Prop} (h : optK v k) : ∃ a, v = some a ∧ k a := by
  cases v with
  | none => exact h.elim
  | some a => exact ⟨a, rfl, h⟩
theorem intK_elim {v : Value} {k : IntKind → Int → Prop} (h : intK v k) : ∃ i n, v = .int i n ∧ k i n := by
  unfold intK at h; split at h
  · exact ⟨_, _, rfl, h⟩
  · exact h.elim
theorem boolK_elim {v : Value} {k : Bool → Prop} (h : boolK v k) : ∃ a, v = .bool a ∧ k a := by
  unfold boolK at h; split at h
  · exact ⟨_, rfl, h⟩
  · exact h.elim
theorem aggK_elim {v : Value} {k : Array Value → Prop} (h : aggK v k) : ∃ a, v = .agg a ∧ k a := by
  unfold aggK at h
  split at h
  · exact ⟨_, rfl, h⟩
  · exact h.elim
theorem sliceK_elim {v : Value} {k : Option Addr → Nat → Nat → Prop} (h : sliceK v k) : ∃ a n c, v = .slice a n c ∧ k a n c := by
  unfold sliceK at h; split at h
  · exact ⟨_, _, _, rfl, h⟩
  · exact h.elim
theorem tupleK_elim {v : Value} {k : Array Value → Prop} (h : tupleK v k) : ∃ a, v = .tuple a ∧ k a := by
  unfold tupleK at h; split at h
  · exact ⟨_, rfl, h⟩
  · exact h.elim

theorem funcK_elim {v : Value} {k : FuncId → Array Value → Array Value → Prop} (h : funcK v k) : ∃ f a b, v = .func (.func f) a b ∧ k f a b := by
  unfold funcK at h; split at h
  · exact ⟨_, _, _, rfl, h⟩
  · exact h.elim
theorem two_toList {vs : Array Value} {x y : Value} (hs : vs.size = 2) (hx : vs[0]? = some x) (hy : vs[1]? = some y) : vs.toList = [x, y] := by
  obtain ⟨l⟩ := vs
  match l, hs with
  | [a, b], _ => simp at hx hy; simp [hx, hy]

theorem WPr_skip {dst : Option Nat} {ρ : Regs} {K : Regs → World → Prop} {s : Sem Unit} {w w' : World} (h : s.run P w = .ok () w') (hk : K (put ρ dst undef) w') :
    WPr P dst ρ K ((do s; pure .skip : Sem Next).run P w) := by
  simp only [Sem.run_bind, h, Result.andThen_ok]; exact hk

theorem run_alloc {T : TypeId} {z : Array Value} (h : zeroOf P T = some z) (w : World) :
    (Instr.alloc T true (.tuple #[])).run P w = .ok (.pointer (some ⟨w.heap.size, 0, none⟩)) (w.alloc (.cells z T)) := by
  simp only [zeroOf, Option.map_eq_some_iff, Option.bind_eq_some_iff] at h
  obtain ⟨v, ⟨i, hi, hz⟩, rfl⟩ := h
  simp only [Instr.alloc, Sem.run_bind, run_zero hi hz, Result.andThen_ok, newVar, newRow, newObj, Sem.run, Sem.run_pure]
  rfl

theorem foldl_wr (vs : List Value) : ∀ (k : Nat) (cs : Array Value) (off : Nat), (vs.zipIdx k).foldl (fun cs (x : Value × Nat) => cs.setIfInBounds (off + x.2) x.1) cs = wrArr cs (off + k) vs := by
  induction vs with
  | nil => intro k cs off; rfl
  | cons v vs ih => intro k cs off; simp only [List.zipIdx_cons, List.foldl_cons, wrArr]; rw [ih]; rfl

theorem fill_sound {pl : List (Nat × Nat)} : ∀ (ps : List (Nat × Value)) (cells cs : Array Value), fillL pl cells ps = some cs → Instr.fill (fun i => pl[i]?) cells ps = some cs := by
  intro ps
  induction ps with
  | nil => intro cells cs h; exact h
  | cons p ps ih =>
    obtain ⟨i, v⟩ := p
    intro cells cs h
    simp only [fillL] at h
    simp only [Instr.fill]
    cases hp : pl[i]? with
    | none => simp [hp] at h
    | some x =>
      obtain ⟨off, size⟩ := x
      simp only [hp] at h ⊢
      split at h
      · rename_i hc
        have hne : ¬ ((v.cells.size != size) = true ∨ (decide (off + v.cells.size > cells.size)) = true) := by simp [hc.1]; omega
        have e : (v.cells.zipIdx.foldl (fun cs (x : Value × Nat) => cs.setIfInBounds (off + x.2) x.1) cells) = wrArr cells off v.cells.toList := by
          have := foldl_wr v.cells.toList 0 cells off
          rw [Nat.add_zero] at this
          rw [← this, ← Array.foldl_toList]
          simp
        have hcond : ¬ ((v.cells.size ≠ size) ∨ (off + v.cells.size > cells.size)) := by omega
        simp only [Bool.or_eq_true, decide_eq_true_eq]
        rw [if_neg (by simpa using hcond)]
        rw [e]
        exact ih _ _ h
      · cases h

theorem wrArr_two (a b : List Value) : ∀ (c : Array Value) (o : Nat), wrArr (wrArr c o a) (o + a.length) b = wrArr c o (a ++ b) := by
  induction a with
  | nil => intro c o; rfl
  | cons x a ih => intro c o; simp only [wrArr, List.cons_append, List.length_cons]; rw [← ih]; congr 1; omega

theorem fill_bsl {size : Nat} : ∀ (ps : List (Nat × Value)) (k : Nat) (cells : Array Value) (cs : List Value), bsl size k ps = some cs → (k + ps.length) * size ≤ cells.size →
    Instr.fill (fun i => some (i * size, size)) cells ps = some (wrArr cells (k * size) cs) ∧ cs.length = ps.length * size := by
  intro ps
  induction ps with
  | nil => intro k cells cs h _; simp only [bsl, Option.some.injEq] at h; subst h; exact ⟨rfl, by simp⟩
  | cons p ps ih =>
    obtain ⟨i, v⟩ := p
    intro k cells cs h hl
    simp only [bsl] at h
    split at h
    · rename_i hc
      obtain ⟨rfl, hs⟩ := hc
      simp only [Option.map_eq_some_iff] at h
      obtain ⟨cs', h', rfl⟩ := h
      simp only [List.length_cons] at hl
      have e1 : (i + (ps.length + 1)) * size = i * size + ps.length * size + size := by rw [Nat.add_mul, Nat.add_mul]; omega
      have hle : (i + 1 + ps.length) * size ≤ cells.size := by rw [Nat.add_mul, Nat.add_mul]; omega
      have := ih (i + 1) (wrArr cells (i * size) v.cells.toList) cs' h' (by rw [wrArr_size]; exact hle)
      refine ⟨?_, by simp only [List.length_append, List.length_cons, this.2, Array.length_toList, hs, Nat.add_mul]; omega⟩
      have e : (v.cells.zipIdx.foldl (fun cs (x : Value × Nat) => cs.setIfInBounds (i * size + x.2) x.1) cells) = wrArr cells (i * size) v.cells.toList := by
        have := foldl_wr v.cells.toList 0 cells (i * size)
        rw [Nat.add_zero] at this
        rw [← this, ← Array.foldl_toList]
        simp
      simp only [Instr.fill, Bool.or_eq_true, decide_eq_true_eq]
      rw [if_neg (by simp [hs]; omega), e, this.1]
      congr 1
      have h2 := wrArr_two v.cells.toList cs' cells (i * size)
      rw [← h2]
      congr 1
      rw [Array.length_toList, hs, Nat.add_mul]; omega
    · cases h

theorem wrArr_full0 {c : Array Value} {vs : List Value} (h : vs.length = c.size) : wrArr c 0 vs = vs.toArray := by
  have get : ∀ (vs : List Value) (c : Array Value) (o i : Nat), (wrArr c o vs)[i]? = if o ≤ i ∧ i < o + vs.length ∧ i < c.size then vs[i - o]? else c[i]? := by
    intro vs
    induction vs with
    | nil => intro c o i; simp only [wrArr, List.length_nil]; rw [if_neg (by omega)]
    | cons v vs ih =>
      intro c o i
      simp only [wrArr, ih, Array.size_setIfInBounds, List.length_cons, Array.getElem?_setIfInBounds]
      by_cases hi : i = o
      · subst hi
        rw [if_neg (by omega)]
        by_cases hs : i < c.size
        · simp [hs]
        · simp [hs]
      · by_cases h1 : o + 1 ≤ i ∧ i < o + 1 + vs.length ∧ i < c.size
        · rw [if_pos h1, if_pos (by omega)]
          obtain ⟨k, hk⟩ : ∃ k, i - o = k + 1 := ⟨i - o - 1, by omega⟩
          have hk2 : i - (o + 1) = k := by omega
          simp [hk, hk2]
        · rw [if_neg h1, if_neg (show ¬ o = i by omega), if_neg (show ¬ (o ≤ i ∧ i < o + (vs.length + 1) ∧ i < c.size) by omega)]
  apply Array.ext_getElem?
  intro i
  rw [get]
  by_cases hi : i < c.size
  · rw [if_pos (by omega)]; simp
  · rw [if_neg (by omega), Array.getElem?_eq_none (by omega)]; simp; omega

theorem buildSlice_sound {T : TypeId} {e : TypeId × Nat} {cs : List Value} {n : Nat} {ps : Array (Nat × Value)} (he : slElem P T = some e) (hb : bsl e.2 0 ps.toList = some cs) (hn : ps.size = n) (hs : n * e.2 ≤ 16777216) (w : World) :
    (Instr.buildSlice T n ps).run P w = .ok (.slice (some ⟨w.heap.size, 0, none⟩) n n) (w.alloc (.cells cs.toArray e.1)) := by
  simp only [slElem] at he
  split at he
  · rename_i el hu
    simp only [Option.bind_eq_some_iff] at he
    obtain ⟨i, hi, he⟩ := he
    split at he
    · rename_i hz
      obtain ⟨z, hz⟩ := Option.isSome_iff_exists.1 hz
      simp only [Option.some.injEq] at he
      subst he
      simp only [Instr.buildSlice, Sem.run_bind, run_underlying hu, Result.andThen_ok, run_sizeOf hi]
      rw [if_neg (by simp only at hs; omega)]
      have hl : ps.toList.length = n := by simpa using hn
      have fin : ∀ zero : Array Value, Instr.fill (fun j => some (j * i.size, i.size)) ((Array.range (n * i.size)).map (fun j => zero[j % zero.size]!)) ps.toList = some cs.toArray := by
        intro zero
        obtain ⟨h1, h2⟩ := fill_bsl ps.toList 0 ((Array.range (n * i.size)).map (fun j => zero[j % zero.size]!)) cs hb (by simp [hn])
        rw [h1, Nat.zero_mul, wrArr_full0 (by simp [h2, hn])]
      by_cases h0 : n * i.size = 0
      · simp only [h0, if_true, Sem.run_bind, Sem.run_pure, Result.andThen_ok]
        have := fin #[]
        rw [h0] at this
        simp only [this, Sem.run_bind, Result.andThen_ok, newRow, newObj, Sem.run, Sem.run_pure]
        rfl
      · simp only [h0, if_false, Sem.run_bind, Sem.run_pure, Result.andThen_ok, run_zero hi hz, fin, newRow, newObj, Sem.run]
        rfl
    · cases he
  · cases he

theorem run_mapM_places : ∀ (fs : List Field) (pl : List (Nat × Nat)) (w : World), fs.mapM (fun f => (P.info? f.type).map fun i => (f.offset, i.size)) = some pl →
    (fs.mapM (m := Sem) fun f => do pure (f.offset, ← Go.sizeOf f.type)).run P w = .ok pl w := by
  intro fs
  induction fs with
  | nil => intro pl w h; simp at h; subst h; rfl
  | cons f fs ih =>
    intro pl w h
    simp only [List.mapM_cons, Option.bind_eq_bind, Option.bind_eq_some_iff, Option.map_eq_some_iff, Option.pure_def, Option.some.injEq] at h
    obtain ⟨x, ⟨i, hi, rfl⟩, l, hl, rfl⟩ := h
    simp only [List.mapM_cons, Sem.run_bind, run_sizeOf hi, Result.andThen_ok, Sem.run_pure, ih l w hl]

theorem build_sound {T : TypeId} {z cs : Array Value} {pl : List (Nat × Nat)} {ps : Array (Nat × Value)} (hz : zeroOf P T = some z) (hp : placesOf P T = some pl) (hf : fillL pl z ps.toList = some cs) (w : World) :
    (Instr.build T ps).run P w = .ok (.agg cs) w := by
  simp only [zeroOf, Option.map_eq_some_iff, Option.bind_eq_some_iff] at hz
  obtain ⟨v, ⟨i, hi, hz⟩, rfl⟩ := hz
  unfold placesOf at hp
  split at hp
  · rename_i fs hu
    simp only [Instr.build, Sem.run_bind, run_zero hi hz, Result.andThen_ok, run_underlying hu]
    rw [Array.mapM_eq_mapM_toList]
    simp only [Sem.run_map, Sem.run_bind, run_mapM_places fs.toList pl w hp, Result.andThen_ok, Sem.run_pure, List.getElem?_toArray, fill_sound _ _ _ hf]
  · cases hp

theorem conv_sound {S T : TypeId} {v u : Value} (h : convV P S T v = some u) (w : World) : (convert S T v).run P w = .ok u w := by
  unfold convV at h
  split at h
  · split at h
    · rename_i k n hs
      obtain ⟨d, hd⟩ := Option.isSome_iff_exists.1 hs
      simp only [intT, Option.map_eq_some_iff] at h
      obtain ⟨k', hk, rfl⟩ := h
      split at hk
      · rename_i k2 hu
        simp only [Option.some.injEq] at hk; subst hk
        simp only [convert, Sem.run_bind, run_underlying hd, run_underlying hu, Result.andThen_ok]
        rfl
      · cases hk
    · cases h
  · cases h

theorem field_sound {T : TypeId} {k : Nat} {cs : Array Value} {u : Value} (h : fieldV P T k cs = some u) (w : World) : (Instr.field T (.agg cs) k).run P w = .ok u w := by
  unfold fieldV at h
  split at h
  all_goals first | (cases h; done) | skip
  all_goals
    rename_i ho
    unfold fieldO at ho
    split at ho
    · rename_i fs hu
      obtain ⟨f, hf, ho⟩ := Option.bind_eq_some_iff.1 ho
      obtain ⟨q, hq, hqe⟩ := Option.map_eq_some_iff.1 ho
      cases hqe
      unfold loadKind at hq
      split at hq
      · rename_i i ha hi
        cases hq <;> simp only [Instr.field, Sem.run_bind, run_underlying hu, Result.andThen_ok, hf, asAgg, Sem.run_pure, part, run_isAgg ha, Bool.false_eq_true, if_false, h]
      · rename_i i ha hi
        cases hq <;> first
          | (simp only [Option.some.injEq] at h; subst h; simp only [Instr.field, Sem.run_bind, run_underlying hu, Result.andThen_ok, hf, asAgg, Sem.run_pure, part, run_isAgg ha, if_true, run_sizeOf hi])
      · cases hq
    · cases ho
theorem bnd_sound {v : Value} {y n : Nat} (h : bnd v y = some n) (code : Instr.sliceBound v y = Instr.sliceBound v y ∨ True) (c : BoundsCode) (w : World) : (Instr.sliceBound v y c).run P w = .ok n w := by
  unfold bnd at h
  split at h
  · split at h
    · rename_i k i hb
      simp only [Option.some.injEq] at h; subst h
      simp [Instr.sliceBound, asIntOf, hb]
    · cases h
  · cases h

theorem slice_sound {T : TypeId} {lo hi mx : Option Value} {v u : Value} (h : sliceV P T lo hi mx v = some u) (w : World) : (Instr.sliceAt T v lo hi mx).run P w = .ok u w := by
  unfold sliceV at h
  split at h
  · rename_i a n c
    simp only [Option.bind_eq_some_iff, Option.some.injEq] at h
    obtain ⟨s, hs, m, hm, hh, h2, l, hl, rfl⟩ := h
    simp only [elemSize] at hs
    split at hs
    · rename_i e he
      simp only [Option.map_eq_some_iff] at hs
      obtain ⟨inf, hi', rfl⟩ := hs
      have hb : (Instr.sliceBounds true n c lo hi mx).run P w = .ok (l, hh, m) w := by
        unfold Instr.sliceBounds
        cases mx with
        | none =>
          simp only [Option.some.injEq] at hm; subst hm
          cases hi with
          | none =>
            simp only [Option.some.injEq] at h2; subst h2
            cases lo with
            | none => simp only [Option.some.injEq] at hl; subst hl; simp
            | some v => simp [bnd_sound hl (.inr trivial)]
          | some x =>
            cases lo with
            | none => simp only [Option.some.injEq] at hl; subst hl; simp [bnd_sound h2 (.inr trivial)]
            | some v => simp [bnd_sound h2 (.inr trivial), bnd_sound hl (.inr trivial)]
        | some y =>
          cases hi with
          | none => cases h2
          | some x =>
            cases lo with
            | none => simp only [Option.some.injEq] at hl; subst hl; simp [bnd_sound h2 (.inr trivial), bnd_sound hm (.inr trivial)]
            | some v => simp [bnd_sound h2 (.inr trivial), bnd_sound hl (.inr trivial), bnd_sound hm (.inr trivial)]
      simp only [Instr.sliceAt, Sem.run_bind, run_underlying he, Result.andThen_ok, Instr.slice, hb, run_sizeOf hi', Sem.run_pure, slBase]
    · cases hs
  · cases h

theorem run_callFunc {f : FuncId} (h : callable P f = true) (args : Array Value) (w : World) : (callFunc f args).run P w = .ok (.enter f args) w := by
  unfold callable at h
  split at h
  · rename_i fn hf
    rw [Bool.and_eq_true] at h
    obtain ⟨h1, h2⟩ := h
    have h2' : fn.body.isNone = false := by cases hb : fn.body <;> simp_all
    simp only [callFunc, Sem.run_bind, program, Sem.run, Result.andThen_ok, hf, h2']
    rw [if_neg (by simpa using h1)]
    rfl
  · cases h

theorem plain_run {dst : Option Nat} {b : Builtin} {args : Array Operand} {argTypes : Array TypeId} {type : TypeId} {pos : String} {after : Array Edge} {guard : Option (Nat × Bool)} {ρ : Regs} {v : Value} (hb : plainB b = true) (hv : bltK P b argTypes (args.map (ev ρ)) = some v) (w : World) :
    (execOp (ev ρ) { dst := dst, op := .call { callee := .builtin b, args := args, argTypes := argTypes }, type := type, pos := pos, after := after, guard := guard }).run P w = .ok (.value v) w := by
  cases b <;> first | (simp [plainB] at hb; done) | skip
  · -- len
    simp only [bltK, Option.bind_eq_some_iff] at hv
    obtain ⟨T, hT, x, hx, hv⟩ := hv
    simp only [execOp, resolve, Sem.run_bind, Sem.run_pure, Result.andThen_ok, invoke, builtin, Builtin.len_, hT, hx]
    unfold lenV at hv
    split at hv
    · split at hv
      · rename_i ht
        obtain ⟨e, he⟩ := under_slice ht
        simp only [Option.some.injEq] at hv; subst hv
        simp [run_underlying he, goInt]
      · cases hv
    · split at hv
      · rename_i ht
        have he : P.underlying T = some .string := by unfold isStrT at ht; split at ht <;> simp_all
        simp only [Option.some.injEq] at hv; subst hv
        simp [run_underlying he, goInt]
      · cases hv
    · cases hv
  · -- max
    simp only [bltK, Option.bind_eq_some_iff] at hv
    obtain ⟨x, hx, y, hy, hv⟩ := hv
    split at hv
    · rename_i hs
      unfold maxV at hv
      split at hv
      · simp only [Option.some.injEq] at hv; subst hv
        simp only [execOp, resolve, Sem.run_bind, Sem.run_pure, Result.andThen_ok, invoke, builtin, Builtin.max_, two_toList hs hx hy]
        simp [Builtin.max2]
      · cases hv
    · cases hv
  · simp only [bltK, Option.bind_eq_some_iff] at hv
    obtain ⟨x, hx, y, hy, hv⟩ := hv
    split at hv
    · rename_i hs
      unfold minV at hv
      split at hv
      · simp only [Option.some.injEq] at hv; subst hv
        simp only [execOp, resolve, Sem.run_bind, Sem.run_pure, Result.andThen_ok, invoke, builtin, Builtin.min_, two_toList hs hx hy]
        simp [Builtin.min2]
      · cases hv
    · cases hv


theorem step_sound {o : Oper} {ρ : Regs} {w : World} {K : Regs → World → Prop} (h : stepK P o ρ w K) : WPop P o ρ w K := by
  obtain ⟨dst, op, type, pos, after, guard⟩ := o
  unfold WPop
  cases op <;> first | exact rawK.run h | exact h | skip
  case pick c a b =>
    obtain ⟨t, ht, hk⟩ := boolK_elim h
    simp only [execOp, ht, asBool, Sem.run_bind, Sem.run_pure, Result.andThen_ok]
    exact hk
  case alloc T =>
    obtain ⟨z, hz, hk⟩ := optK_elim h
    exact WPr_value (run_alloc hz w) hk
  case load T x =>
    obtain ⟨a, ha, h⟩ := addrK_elim h
    obtain ⟨v, hv, hk⟩ := optK_elim h
    refine WPr_value (s := Instr.loadAt T (ev ρ x)) ?_ hk
    simp only [Instr.loadAt, ha, Instr.sureAddr, Sem.run_bind, Sem.run_pure, Result.andThen_ok]
    exact loadOf_sound hv
  case store T x y =>
    obtain ⟨a, ha, h⟩ := addrK_elim h
    obtain ⟨w', hv, hk⟩ := optK_elim h
    refine WPr_skip (s := Instr.storeAt T (ev ρ x) (ev ρ y)) ?_ hk
    simp only [Instr.storeAt, ha, Instr.sureAddr, Sem.run_bind, Sem.run_pure, Result.andThen_ok]
    exact storeOf_sound hv
  case nilCheck x =>
    obtain ⟨a, ha, hk⟩ := addrK_elim h
    simp only [execOp, ha]
    exact hk
  case fieldAddr T x k =>
    obtain ⟨a, ha, h⟩ := addrK_elim h
    obtain ⟨n, hn, h⟩ := optK_elim h
    obtain ⟨a', ha', hk⟩ := optK_elim h
    refine WPr_value (s := Instr.fieldAt T (ev ρ x) k) ?_ hk
    rw [ha]
    exact fieldOff_sound hn ha' w
  case indexAddr T x i =>
    obtain ⟨s, hs, h⟩ := optK_elim h
    obtain ⟨base, len, cap, hx, h⟩ := sliceK_elim h
    obtain ⟨k, j, hj, h⟩ := intK_elim h
    obtain ⟨jn, hjn, h⟩ := optK_elim h
    have hb : 0 ≤ j ∧ j < len := by unfold idxO at hjn; split at hjn <;> simp_all
    have hjn : jn = j.toNat := by rw [idxO_ok hb] at hjn; simpa using hjn.symm
    subst hjn
    obtain ⟨a, ha, h⟩ := optK_elim h
    obtain ⟨a', ha', hk⟩ := optK_elim h
    refine WPr_value (s := Instr.indexAt T (ev ρ x) (ev ρ i)) ?_ hk
    simp only [elemSize] at hs
    split at hs
    · rename_i e he
      simp only [Option.map_eq_some_iff] at hs
      obtain ⟨inf, hi, rfl⟩ := hs
      subst ha
      simp only [Instr.indexAt, hx, hj, asIntOf, Sem.run_bind, Sem.run_pure, Result.andThen_ok, run_underlying he]
      simp only [hb, and_self, if_true, Sem.run_bind, run_sizeOf hi, Result.andThen_ok, Sem.run_pure, add_of_addOff ha']
    · cases hs
  case binOp op T x y yT =>
    obtain ⟨v, hv, hk⟩ := optK_elim h
    exact WPr_value (binNil_sound hv w) hk
  case unOp op T x =>
    cases op <;> first | exact rawK.run h | exact h | skip
    obtain ⟨t, ht, hk⟩ := boolK_elim h
    refine WPr_value (s := Op.unary .not (ev ρ x)) (v := .bool (!t)) ?_ hk
    rw [ht]; rfl
  case extract x i =>
    obtain ⟨vs, hx, h⟩ := tupleK_elim h
    obtain ⟨v, hv, hk⟩ := optK_elim h
    refine WPr_value (s := Instr.extract (ev ρ x) i) ?_ hk
    simp [Instr.extract, hx, hv]
  case makeInterface T x =>
    obtain ⟨h1, h2, hk⟩ := h
    refine WPr_value (s := Instr.makeInterface T (ev ρ x)) ?_ hk
    obtain ⟨d, hd⟩ := Option.isSome_iff_exists.1 h2
    simp only [isIfaceT, hd] at h1
    simp only [Instr.makeInterface, Sem.run_bind, run_underlying hd, Result.andThen_ok]
    cases d <;> first | (simp at h1; done) | rfl
  case build T ps =>
    obtain ⟨z, hz, h⟩ := optK_elim h
    obtain ⟨pl, hp, h⟩ := optK_elim h
    obtain ⟨cs, hc, hk⟩ := optK_elim h
    exact WPr_value (build_sound hz hp (by simpa using hc) w) hk
  case buildSlice T n ps =>
    obtain ⟨e, he, h⟩ := optK_elim h
    obtain ⟨cs, hc, h⟩ := optK_elim h
    obtain ⟨⟨hn, hs⟩, hk⟩ := h
    exact WPr_value (buildSlice_sound he (by simpa using hc) (by simpa using hn) hs w) hk
  case convert S T x =>
    have h' : convK P S T (ev ρ x) (fun v => K (put ρ dst v) w) (rawK P { dst := dst, op := .convert S T x, type := type, pos := pos, after := after, guard := guard } ρ w K) := h
    unfold convK at h'
    split at h'
    · rename_i i n hx
      obtain ⟨v, hv, hk⟩ := optK_elim h'
      refine WPr_value (s := convert S T (ev ρ x)) ?_ hk
      rw [hx]; exact conv_sound hv w
    · exact h'.run
  case field T x k =>
    obtain ⟨cs, hcs, h⟩ := aggK_elim h
    obtain ⟨v, hv, hk⟩ := optK_elim h
    refine WPr_value (s := Instr.field T (ev ρ x) k) ?_ hk
    rw [hcs]; exact field_sound hv w
  case slice T x lo hi mx =>
    obtain ⟨v, hv, hk⟩ := optK_elim h
    exact WPr_value (slice_sound hv w) hk
  case call c =>
    obtain ⟨callee, args, argTypes⟩ := c
    cases callee with
    | invoke r m => exact rawK.run h
    | value x =>
      obtain ⟨f, a, b, hx, hf, h⟩ := funcK_elim h
      have : (execOp (ev ρ) { dst := dst, op := .call { callee := .value x, args := args, argTypes := argTypes }, type := type, pos := pos, after := after, guard := guard }).run P w = .ok (.enter f (a ++ args.map (ev ρ) ++ b)) w := by
        simp only [execOp, resolve, hx, Deferred.ofValue, Sem.run_bind, Sem.run_pure, Result.andThen_ok, invoke, run_callFunc hf]
      rw [this]
      exact h
    | builtin b =>
      simp only [stepK] at h
      split at h
      · rename_i hb
        obtain ⟨v, hv, hk⟩ := optK_elim h
        rw [plain_run hb hv w]
        exact hk
      · exact h.run

theorem WPseq_of_sq {ops : Array Oper} : ∀ (os : List Oper) (K : Regs → World → Prop) (ρ : Regs) (w : World), WPsq P ops os K ρ w → WPseq P ops os K ρ w := by
  intro os
  induction os with
  | nil => intro K ρ w h; exact h
  | cons o os ih =>
    intro K ρ w h
    simp only [WPsq] at h
    simp only [WPseq]
    split
    · rename_i hw
      rw [if_pos hw] at h
      have := step_sound h
      unfold WPop at this ⊢
      revert this
      generalize (execOp (ev ρ) o).run P w = r
      intro this
      cases r with
      | halt x w' => exact this
      | ok x w' =>
        cases x <;> first | exact ih _ _ _ this | exact this | skip
        case enter f args => exact Fn.mono this fun v w' hh => ih _ _ _ hh
        case row row args => exact Rows.mono this fun v w' hh => ih _ _ _ hh
    · rename_i hw
      rw [if_neg hw] at h
      exact ih _ _ _ h

end
end Ms
