/- A part of the proof: see the last text. -/
import Derived.Test.YtkoeaaababfjkaaGreatDoorC02
import Derived.Test.YtkoeaaababfjkaaGreatDoorC06
import Derived.Test.YtkoeaaababfjkaaGreatDoorC07
import Derived.Test.YtkoeaaababfjkaaGreatDoorC09
import Derived.Test.YtkoeaaababfjkaaGreatDoorC10
set_option linter.unusedSimpArgs false
set_option linter.unusedVariables false
namespace Ms
open Nat renaming reduceEqDiff → n0, reduceAdd → n1, reduceMul → n2, reduceSub → n3, reduceLT → n4, reduceLeDiff → n5
open Int renaming reduceEq → i0, reduceLT → i1, reduceLE → i2, reduceNeg → i3, reduceAdd → i4, reduceSub → i5, reduceMul → i6, reduceToNat → i7
set_option maxRecDepth 4000
open Go Go.Proofs
theorem ca_10 : callable Tryz.prog 10 = true := nr (by kernel_rfl)
theorem ca_13 : callable Tryz.prog 13 = true := nr (by kernel_rfl)
theorem ca_130 : callable Tryz.prog 130 = true := nr (by kernel_rfl)
theorem ca_131 : callable Tryz.prog 131 = true := nr (by kernel_rfl)
theorem ca_132 : callable Tryz.prog 132 = true := nr (by kernel_rfl)
theorem ca_133 : callable Tryz.prog 133 = true := nr (by kernel_rfl)
theorem ca_134 : callable Tryz.prog 134 = true := nr (by kernel_rfl)
theorem ca_135 : callable Tryz.prog 135 = true := nr (by kernel_rfl)
theorem ca_14 : callable Tryz.prog 14 = true := nr (by kernel_rfl)
theorem ca_141 : callable Tryz.prog 141 = true := nr (by kernel_rfl)
theorem ca_17 : callable Tryz.prog 17 = true := nr (by kernel_rfl)
theorem ca_18 : callable Tryz.prog 18 = true := nr (by kernel_rfl)
theorem ca_19 : callable Tryz.prog 19 = true := nr (by kernel_rfl)
theorem ca_42 : callable Tryz.prog 42 = true := nr (by kernel_rfl)
theorem ca_43 : callable Tryz.prog 43 = true := nr (by kernel_rfl)
theorem ca_44 : callable Tryz.prog 44 = true := nr (by kernel_rfl)
theorem ca_45 : callable Tryz.prog 45 = true := nr (by kernel_rfl)
theorem ca_46 : callable Tryz.prog 46 = true := nr (by kernel_rfl)
theorem ca_90 : callable Tryz.prog 90 = true := nr (by kernel_rfl)
theorem ca_91 : callable Tryz.prog 91 = true := nr (by kernel_rfl)
theorem ca_93 : callable Tryz.prog 93 = true := nr (by kernel_rfl)
theorem ca_94 : callable Tryz.prog 94 = true := nr (by kernel_rfl)
theorem ca_95 : callable Tryz.prog 95 = true := nr (by kernel_rfl)
theorem ca_96 : callable Tryz.prog 96 = true := nr (by kernel_rfl)
theorem ca_97 : callable Tryz.prog 97 = true := nr (by kernel_rfl)
theorem fo_90_0 : fieldOff Tryz.prog 90 0 = some 0 := nr (by kernel_rfl)
theorem fo_90_1 : fieldOff Tryz.prog 90 1 = some 1 := nr (by kernel_rfl)
theorem fo_90_2 : fieldOff Tryz.prog 90 2 = some 2 := nr (by kernel_rfl)
theorem fo_90_3 : fieldOff Tryz.prog 90 3 = some 3 := nr (by kernel_rfl)
theorem fo_90_4 : fieldOff Tryz.prog 90 4 = some 19 := nr (by kernel_rfl)
theorem if_49 : isIfaceT Tryz.prog 49 = true := nr (by kernel_rfl)
theorem ld_21 (w : World) (b o : Nat) : loadOf Tryz.prog 21 w ⟨b, o, none⟩ = (blk w b).bind fun x => x.1[o]? := loadOf_one (by kernel_rfl) w b o
theorem ld_31 (w : World) (b o : Nat) : loadOf Tryz.prog 31 w ⟨b, o, none⟩ = (blk w b).bind fun x => cellsAt x.1 o 2 := loadOf_agg (by kernel_rfl) w b o
theorem ld_40 (w : World) (b o : Nat) : loadOf Tryz.prog 40 w ⟨b, o, none⟩ = (blk w b).bind fun x => x.1[o]? := loadOf_one (by kernel_rfl) w b o
theorem ld_69 (w : World) (b o : Nat) : loadOf Tryz.prog 69 w ⟨b, o, none⟩ = (blk w b).bind fun x => x.1[o]? := loadOf_one (by kernel_rfl) w b o
theorem pl_153 : placesOf Tryz.prog 153 = some [(0, 1), (1, 1)] := nr (by kernel_rfl)
theorem pl_31 : placesOf Tryz.prog 31 = some [(0, 1), (1, 1)] := nr (by kernel_rfl)
theorem pl_45 : placesOf Tryz.prog 45 = some [(0, 1), (1, 1), (2, 1), (3, 1), (4, 1), (5, 1), (6, 1), (7, 1)] := nr (by kernel_rfl)
theorem se_29 : slElem Tryz.prog 29 = some (45, 8) := nr (by kernel_rfl)
theorem sz_153 (w : World) (b o : Nat) (v : Value) : storeOf Tryz.prog 153 w ⟨b, o, none⟩ v = (blk w b).bind fun x => stO w b o v x 2 := storeOf_n (by kernel_rfl) w b o v
theorem sz_21 (w : World) (b o : Nat) (v : Value) : storeOf Tryz.prog 21 w ⟨b, o, none⟩ v = (blk w b).bind fun x => stO w b o v x 1 := storeOf_n (by kernel_rfl) w b o v
theorem sz_31 (w : World) (b o : Nat) (v : Value) : storeOf Tryz.prog 31 w ⟨b, o, none⟩ v = (blk w b).bind fun x => stO w b o v x 2 := storeOf_n (by kernel_rfl) w b o v
theorem sz_40 (w : World) (b o : Nat) (v : Value) : storeOf Tryz.prog 40 w ⟨b, o, none⟩ v = (blk w b).bind fun x => stO w b o v x 1 := storeOf_n (by kernel_rfl) w b o v
theorem sz_69 (w : World) (b o : Nat) (v : Value) : storeOf Tryz.prog 69 w ⟨b, o, none⟩ v = (blk w b).bind fun x => stO w b o v x 1 := storeOf_n (by kernel_rfl) w b o v
theorem z_153 : zeroOf Tryz.prog 153 = some #[.slice none 0 0, .bool false] := nr (by kernel_rfl)
theorem z_31 : zeroOf Tryz.prog 31 = some #[.slice none 0 0, .int .i64 0] := nr (by kernel_rfl)
theorem z_90 : zeroOf Tryz.prog 90 = some #[.int .i16 0, .pointer none, .int .i32 0, .int .u8 0, .int .u8 0, .int .u8 0, .int .u8 0, .int .u8 0, .int .u8 0, .int .u8 0, .int .u8 0, .int .u8 0, .int .u8 0, .int .u8 0, .int .u8 0, .int .u8 0, .int .u8 0, .int .u8 0, .int .u8 0, .map none] := nr (by kernel_rfl)
attribute [go_sem] ca_10 ca_13 ca_130 ca_131 ca_132 ca_133 ca_134 ca_135 ca_14 ca_141 ca_17 ca_18 ca_19 ca_42 ca_43 ca_44 ca_45 ca_46 ca_90 ca_91 ca_93 ca_94 ca_95 ca_96 ca_97 fo_90_0 fo_90_1 fo_90_2 fo_90_3 fo_90_4 if_49 ld_21 ld_31 ld_40 ld_69 pl_153 pl_31 pl_45 se_29 sz_153 sz_21 sz_31 sz_40 sz_69 z_153 z_31 z_90
end Ms

namespace Ms
open Nat renaming reduceEqDiff → n0, reduceAdd → n1, reduceMul → n2, reduceSub → n3, reduceLT → n4, reduceLeDiff → n5
open Int renaming reduceEq → i0, reduceLT → i1, reduceLE → i2, reduceNeg → i3, reduceAdd → i4, reduceSub → i5, reduceMul → i6, reduceToNat → i7
set_option maxRecDepth 8000
open Go Go.Proofs Go.Shelf
attribute [local congr] W_congr WPsq_congr WPp_congr optK_congr addrK_congr intK_congr boolK_congr sliceK_congr tupleK_congr funcK_congr Fn_congr rawK_congr takeK_congr stepK_congr convK_congr aggK_congr

def fRemoveRaftVoterRequest_0 : Fld := .mk 8 0 (-1) 0 (-1) 0 0 []
def fRemoveRaftVoterRequest_1 : Fld := .mk 3 0 (-1) (-1) (-1) 0 0 []
def fRemoveRaftVoterRequest_2 : Fld := .mk 7 0 (-1) (-1) (-1) 0 0 []
def fs_RemoveRaftVoterRequest : List Fld := [fRemoveRaftVoterRequest_0, fRemoveRaftVoterRequest_1, fRemoveRaftVoterRequest_2]

set_option maxHeartbeats 4000000 in
theorem cRemoveRaftVoterRequest_fn (w : World) : Fn Tryz.prog 18 #[] w fun r w' => (∃ vs, r = .agg #[vs, .int .i64 0] ∧ FldsV (fun b => w.heap.size ≤ b) w' vs fs_RemoveRaftVoterRequest) ∧ Ext w w' := by
  refine fn_of_W Tryz.func18 rfl Tryz.results18 Tryz.ntmps18 rfl ?_
  repeat ((first | refine W.seqR rfl ?_ | refine W.seq ?_ | refine W.regR rfl ?_ | refine W.condK ?_ | refine W.block ?_ | refine W.skip ?_ | refine W.ret ?_ | refine W.exit ?_); try simp (maxSteps := 1000000) (disch := (first | omega | (simp only [World.size_alloc, size_wr, size_drew] <;> omega) | exact not_noB _)) only [go_sem, ↓reduceIte, n0, reduceCtorEq, n1, n2, n3, n4, n5, i0, i1, i2, i3, i4, i5, i6, i7, fill_fld, fillN_nil, fillN_int, fillN_slice])
  have hz0 : (w.alloc (.cells #[.slice none 0 0, .int .i64 0] 31)).heap.size = w.heap.size + 1 := World.size_alloc _ _
  repeat ((first | refine W.seqR rfl ?_ | refine W.seq ?_ | refine W.regR rfl ?_ | refine W.condK ?_ | refine W.block ?_ | refine W.skip ?_ | refine W.ret ?_ | refine W.exit ?_); try simp (maxSteps := 1000000) (disch := (first | omega | (simp only [World.size_alloc, size_wr, size_drew] <;> omega) | exact not_noB _)) only [go_sem, ↓reduceIte, n0, reduceCtorEq, n1, n2, n3, n4, n5, i0, i1, i2, i3, i4, i5, i6, i7, fill_fld, fillN_nil, fillN_int, fillN_slice])
  exact ⟨⟨_, rfl, FldsV.litO (fs := fs_RemoveRaftVoterRequest) (css := [[.int .i64 8, .int .i64 0, .int .i64 (-1), .int .i64 0, .int .i64 (-1), .int .i64 0, .int .i64 0, .slice none 0 0], [.int .i64 3, .int .i64 0, .int .i64 (-1), .int .i64 (-1), .int .i64 (-1), .int .i64 0, .int .i64 0, .slice none 0 0], [.int .i64 7, .int .i64 0, .int .i64 (-1), .int .i64 (-1), .int .i64 (-1), .int .i64 0, .int .i64 0, .slice none 0 0]]) (T := 45) (fr := (0, 0)) (by first | omega | (simp only [World.size_alloc]; omega)) (by first | (simp (maxSteps := 1000000) (disch := (first | omega | (simp only [World.size_alloc, size_wr, size_drew] <;> omega) | exact not_noB _)) only [go_sem, ↓reduceIte, n0, reduceCtorEq, n1, n2, n3, n4, n5, i0, i1, i2, i3, i4, i5, i6, i7]; rfl) | rfl) (by simp) (All2.cons (FldC.intro (kind := 8) (FldsV.none _ _)) (All2.cons (FldC.intro (kind := 3) (FldsV.none _ _)) (All2.cons (FldC.intro (kind := 7) (FldsV.none _ _)) All2.nil)))⟩, (Upd.wr (Upd.alloc (Upd.alloc (Upd.refl _ _) _) _) _ _ (.inl (Nat.le_refl _)))⟩

theorem DefaultRemoveRaftVoterRequest_fn (w : World) {vb : Nat} {c0 c1 c2 c3 c4 c5 c6 c7 c8 c9 c10 c11 c12 c13 c14 c15 c16 c17 c18 c19 : Value} (hb : blk w vb = some (#[c0, c1, c2, c3, c4, c5, c6, c7, c8, c9, c10, c11, c12, c13, c14, c15, c16, c17, c18, c19], 90, (0, 0))) :
    Fn Tryz.prog 95 #[.pointer (some ⟨vb, 0, none⟩)] w fun _ w' => blk w' vb = some (#[c0, c1, c2, c3, c4, c5, c6, c7, c8, c9, c10, c11, c12, c13, c14, c15, c16, c17, c18, c19], 90, (0, 0)) ∧ Upd (fun b => b = vb) w w' := by
  have hvl := blk_lt hb
  refine fn_of_W Tryz.func95 rfl Tryz.results95 Tryz.ntmps95 rfl ?_
  repeat ((first | refine W.seqR rfl ?_ | refine W.seq ?_ | refine W.regR rfl ?_ | refine W.condK ?_ | refine W.block ?_ | refine W.skip ?_ | refine W.ret ?_ | refine W.exit ?_); try simp (maxSteps := 1000000) (disch := (first | omega | (simp only [World.size_alloc, size_wr, size_drew] <;> omega) | exact not_noB _)) only [go_sem, ↓reduceIte, n0, reduceCtorEq, n1, n2, n3, n4, n5, i0, i1, i2, i3, i4, i5, i6, i7, hb])
  first | exact Upd.refl _ _ | exact ⟨hb, Upd.refl _ _⟩

theorem NewPtrRemoveRaftVoterRequest_fn (w : World) : Fn Tryz.prog 42 #[] w fun r w' => r = .pointer (some ⟨w.heap.size, 0, none⟩) ∧ blk w' w.heap.size = some (#[.int .i16 0, .pointer none, .int .i32 0, .int .u8 0, .int .u8 0, .int .u8 0, .int .u8 0, .int .u8 0, .int .u8 0, .int .u8 0, .int .u8 0, .int .u8 0, .int .u8 0, .int .u8 0, .int .u8 0, .int .u8 0, .int .u8 0, .int .u8 0, .int .u8 0, .map none], 90, (0, 0)) ∧ Ext w w' := by
  refine fn_of_W Tryz.func42 rfl Tryz.results42 Tryz.ntmps42 rfl ?_
  repeat ((first | refine W.seqR rfl ?_ | refine W.seq ?_ | refine W.regR rfl ?_ | refine W.condK ?_ | refine W.block ?_ | refine W.skip ?_ | refine W.ret ?_ | refine W.exit ?_); try simp (maxSteps := 1000000) (disch := (first | omega | (simp only [World.size_alloc, size_wr, size_drew] <;> omega) | exact not_noB _)) only [go_sem, ↓reduceIte, n0, reduceCtorEq, n1, n2, n3, n4, n5, i0, i1, i2, i3, i4, i5, i6, i7])
  refine (DefaultRemoveRaftVoterRequest_fn _ (blk_alloc_new rfl)).mono ?_
  rintro _ w1 ⟨hb1, hU1⟩
  have hz := World.size_alloc w (.cells #[.int .i16 0, .pointer none, .int .i32 0, .int .u8 0, .int .u8 0, .int .u8 0, .int .u8 0, .int .u8 0, .int .u8 0, .int .u8 0, .int .u8 0, .int .u8 0, .int .u8 0, .int .u8 0, .int .u8 0, .int .u8 0, .int .u8 0, .int .u8 0, .int .u8 0, .map none] 90)
  repeat ((first | refine W.seqR rfl ?_ | refine W.seq ?_ | refine W.regR rfl ?_ | refine W.condK ?_ | refine W.block ?_ | refine W.skip ?_ | refine W.ret ?_ | refine W.exit ?_); try simp (maxSteps := 1000000) (disch := (first | omega | (simp only [World.size_alloc, size_wr, size_drew] <;> omega) | exact not_noB _)) only [go_sem, ↓reduceIte, n0, reduceCtorEq, n1, n2, n3, n4, n5, i0, i1, i2, i3, i4, i5, i6, i7])
  exact ⟨hb1, (Upd.alloc (Upd.refl _ _) _ : Ext w _).more hU1 fun b hb h => by omega⟩

theorem SetVersionRemoveRaftVoterRequest_fn (w : World) {vb : Nat} {c0 c1 c2 c3 c4 c5 c6 c7 c8 c9 c10 c11 c12 c13 c14 c15 c16 c17 c18 c19 : Value} (n : Int) (hb : blk w vb = some (#[c0, c1, c2, c3, c4, c5, c6, c7, c8, c9, c10, c11, c12, c13, c14, c15, c16, c17, c18, c19], 90, (0, 0))) :
    Fn Tryz.prog 44 #[.pointer (some ⟨vb, 0, none⟩), .int .i16 n] w fun _ w' => blk w' vb = some (#[.int .i16 n, c1, c2, c3, c4, c5, c6, c7, c8, c9, c10, c11, c12, c13, c14, c15, c16, c17, c18, c19], 90, (0, 0)) ∧ Upd (fun b => b = vb) w w' := by
  have hvl := blk_lt hb
  refine fn_of_W Tryz.func44 rfl Tryz.results44 Tryz.ntmps44 rfl ?_
  repeat ((first | refine W.seqR rfl ?_ | refine W.seq ?_ | refine W.regR rfl ?_ | refine W.condK ?_ | refine W.block ?_ | refine W.skip ?_ | refine W.ret ?_ | refine W.exit ?_); try simp (maxSteps := 1000000) (disch := (first | omega | (simp only [World.size_alloc, size_wr, size_drew] <;> omega) | exact not_noB _)) only [go_sem, ↓reduceIte, n0, reduceCtorEq, n1, n2, n3, n4, n5, i0, i1, i2, i3, i4, i5, i6, i7, hb])
  first | exact Upd.wr (Upd.refl _ _) _ _ (.inr rfl) | exact ⟨by simp (maxSteps := 1000000) (disch := (first | omega | (simp only [World.size_alloc, size_wr, size_drew] <;> omega) | exact not_noB _)) only [go_sem, ↓reduceIte, n0, reduceCtorEq, n1, n2, n3, n4, n5, i0, i1, i2, i3, i4, i5, i6, i7, hb], Upd.wr (Upd.refl _ _) _ _ (.inr rfl)⟩

theorem MaxRemoveRaftVoterRequest_fn (w : World) : Fn Tryz.prog 17 #[] w fun r w' => r = .int .i64 0 ∧ Ext w w' := by
  refine fn_of_W Tryz.func17 rfl Tryz.results17 Tryz.ntmps17 rfl ?_
  repeat ((first | refine W.seqR rfl ?_ | refine W.seq ?_ | refine W.regR rfl ?_ | refine W.condK ?_ | refine W.block ?_ | refine W.skip ?_ | refine W.ret ?_ | refine W.exit ?_); try simp (maxSteps := 1000000) (disch := (first | omega | (simp only [World.size_alloc, size_wr, size_drew] <;> omega) | exact not_noB _)) only [go_sem, ↓reduceIte, n0, reduceCtorEq, n1, n2, n3, n4, n5, i0, i1, i2, i3, i4, i5, i6, i7])
  refine (NewPtrRemoveRaftVoterRequest_fn w).mono ?_
  rintro _ w1 ⟨rfl, hb1, hE1⟩
  repeat ((first | refine W.seqR rfl ?_ | refine W.seq ?_ | refine W.regR rfl ?_ | refine W.condK ?_ | refine W.block ?_ | refine W.skip ?_ | refine W.ret ?_ | refine W.exit ?_); try simp (maxSteps := 1000000) (disch := (first | omega | (simp only [World.size_alloc, size_wr, size_drew] <;> omega) | exact not_noB _)) only [go_sem, ↓reduceIte, n0, reduceCtorEq, n1, n2, n3, n4, n5, i0, i1, i2, i3, i4, i5, i6, i7])
  have hm : Fn Tryz.prog 43 #[.pointer (some ⟨w.heap.size, 0, none⟩)] w1 fun r w' => r = .int .i16 0 ∧ w' = w1 := by
    refine fn_of_W Tryz.func43 rfl Tryz.results43 Tryz.ntmps43 rfl ?_
    repeat ((first | refine W.seqR rfl ?_ | refine W.seq ?_ | refine W.regR rfl ?_ | refine W.condK ?_ | refine W.block ?_ | refine W.skip ?_ | refine W.ret ?_ | refine W.exit ?_); try simp (maxSteps := 1000000) (disch := (first | omega | (simp only [World.size_alloc, size_wr, size_drew] <;> omega) | exact not_noB _)) only [go_sem, ↓reduceIte, n0, reduceCtorEq, n1, n2, n3, n4, n5, i0, i1, i2, i3, i4, i5, i6, i7])
  refine hm.mono ?_
  rintro _ w2 ⟨rfl, rfl⟩
  have ew : IntKind.i64.wrap (0 : Int) = 0 := i64_wrap (by decide)
  repeat ((first | refine W.seqR rfl ?_ | refine W.seq ?_ | refine W.regR rfl ?_ | refine W.condK ?_ | refine W.block ?_ | refine W.skip ?_ | refine W.ret ?_ | refine W.exit ?_); try simp (maxSteps := 1000000) (disch := (first | omega | (simp only [World.size_alloc, size_wr, size_drew] <;> omega) | exact not_noB _)) only [go_sem, ↓reduceIte, n0, reduceCtorEq, n1, n2, n3, n4, n5, i0, i1, i2, i3, i4, i5, i6, i7, ew])
  exact hE1
end Ms

namespace Ms
open Go

/-- A list on the way: j of N things are read. -/
structure LstI (T : TypeId) (r : St → Tree × St) (rel : Rel Tree) (size : Nat) (E : TypeId) (zc : List Value) (L N : Nat) (ok okE : Blocks) (rb : Nat) (wa : World) (sA : St) (va : Value) (j : Nat) (s : St) (xs : List Tree) (css : List (List Value)) (w : World) : Prop where
  le : j ≤ N
  row : RowJ size E zc L N j va css w
  all : All2 (rel (fun b => okE b ∧ ¬ ownB va b) w) xs css
  rd : Rdr T ok w rb s ∧ NN w rb s
  upd : Upd (fun b => b = rb) wa w
  eq : rdMany r N sA = (xs ++ (rdMany r (N - j) s).1, (rdMany r (N - j) s).2)
section
variable {T : TypeId} {r : St → Tree × St} {rel : Rel Tree} {size : Nat} {E : TypeId} {zc : List Value} {L N : Nat} {ok okE : Blocks} {rb : Nat} {wa : World} {sA : St} {va : Value} {j : Nat} {s : St} {xs : List Tree} {css : List (List Value)} {w w' : World}
theorem LstI.start (h : RowJ size E zc L N 0 va [] w) (hr : Rdr T ok w rb sA ∧ NN w rb sA) (hu : Upd (fun b => b = rb) wa w) : LstI T r rel size E zc L N ok okE rb wa sA va 0 sA [] [] w :=
  ⟨Nat.zero_le _, h, ⟨rfl, fun i h => by simp at h⟩, hr, hu, by simp⟩
theorem RowJ.own (h : RowJ size E zc L N j va css w) {b : Nat} (hb : ownB va b) : L ≤ b ∧ b < w.heap.size := by
  obtain ⟨a, n, c, he, rfl⟩ := hb
  rcases h.row with ⟨_, a', h1, h2⟩ | ⟨_, R, q, rest, h1, _, hL, hbk⟩
  · rw [he] at h1; cases h1; exact h2 _ rfl
  · rw [he] at h1; cases h1; exact ⟨hL, blk_lt hbk⟩
theorem LstI.step (hR : Lay rel size) (h : LstI T r rel size E zc L N ok okE rb wa sA va j s xs css w) (hj : j < N) {c : List Value} (row : RowJ size E zc L N (j + 1) va (css ++ [c]) w') (hx : rel (fun b => okE b ∧ ¬ ownB va b) w' (r s).1 c)
    (u : Upd (fun b => ownB va b ∨ b = rb) w w') (rd : Rdr T ok w' rb (r s).2 ∧ NN w' rb (r s).2) (hok : ¬ okE rb) (hL : wa.heap.size ≤ L) : LstI T r rel size E zc L N ok okE rb wa sA va (j + 1) (r s).2 (xs ++ [(r s).1]) (css ++ [c]) w' := by
  refine ⟨hj, row, (h.all.imp fun x y hxy => hR.keep hxy (u.keeps fun b _ hk e => ?_)).snoc hx, rd, ?_, rdMany_step h.eq hj⟩
  · rcases e with e | e
    · exact hk.2 e
    · exact hok (e ▸ hk.1)
  · refine h.upd.trans' u fun i hi e => ?_
    rcases e with e | e
    · have := (h.row.own e).1; omega
    · exact e
theorem LstI.done (h : LstI T r rel size E zc L N ok okE rb wa sA va N s xs css w) : rdMany r N sA = (xs, s) := by
  have := h.eq
  rw [Nat.sub_self] at this
  simpa [rdMany] using this
theorem LstI.bad (h : LstI T r rel size E zc L N ok okE rb wa sA va j s xs css w) (hj : j < N) (hn : (r none).2 = none) (hb : (r s).2 = none) : (rdMany r N sA).2 = none := by
  rw [rdMany_step h.eq hj, hb]
  exact rdMany_none hn _
end
theorem rdP_bad {d : Nat} {v : Int} {flex : Bool} {fs : List Fld} {s : St} (h : (rdL (rdP d v flex) (dfP d) v flex fs s).2 = none) : (rdP (d + 1) v flex fs s).2 = none := by
  rw [rdP]
  split
  · rw [h]; exact rdTags_none
  · exact h
theorem rdL_bad {d : Nat} {v : Int} {flex : Bool} {f : Fld} {fs : List Fld} {s : St} (h : (rdF (rdP d v flex) v flex f s).2 = none) : (rdL (rdP d v flex) (dfP d) v flex fs (rdF (rdP d v flex) v flex f s).2).2 = none := by
  rw [h]; exact rdL_none (rdP_none v flex d) v flex fs
theorem rdF_listbad {d : Nat} {v : Int} {flex : Bool} {f : Fld} {s : St} (hk : f.kind = 11) (h : (rdMany (rd1 (rdP d v flex) f.of f.sub false flex) (rdALen flex s).1.toNat (rdALen flex s).2).2 = none) : (rdF (rdP d v flex) v flex f s).2 = none := by
  unfold rdF
  rw [if_pos hk]
  exact h
theorem rd1P_none {d : Nat} {v : Int} {flex : Bool} {k : Int} {sub : List Fld} : (rd1 (rdP d v flex) k sub false flex none).2 = none := rd1_none (rdP_none v flex d) _ _ _ _
theorem rdALen_rng (flex : Bool) (st : St) : -2147483648 ≤ (rdALen flex st).1 ∧ (rdALen flex st).1 < 2147483648 := by
  have key : ∀ n : Int, -2147483648 ≤ IntKind.i32.wrap n ∧ IntKind.i32.wrap n < 2147483648 := fun n => by
    unfold IntKind.wrap; simp [IntKind.bits, IntKind.signed]; split <;> omega
  have h2 : -2147483648 ≤ (rdCnt flex st).1 ∧ (rdCnt flex st).1 < 2147483648 := by
    cases flex
    · rw [rdCnt_f]; unfold rdInt; exact key _
    · rw [rdCnt_t]; exact key _
  unfold rdALen
  split
  · exact ⟨by decide, by decide⟩
  · exact h2
theorem rdF_listE {pt : List Fld → St → Tree × St} {v : Int} {flex : Bool} {f : Fld} {s e : St} {xs : List Tree} (hk : f.kind = 11) (h : rdMany (rd1 pt f.of f.sub false flex) (rdALen flex s).1.toNat (rdALen flex s).2 = (xs, e)) : rdF pt v flex f s = (.mk 0 [] (nilS f v (rdALen flex s).1) xs [], e) := by
  unfold rdF
  rw [if_pos hk]
  unfold rdList
  rw [h]
/-- What registers hold. -/
def Holds : List (Nat × Value) → Regs → Prop
  | [], _ => True
  | p :: l, ρ => ρ p.1 = p.2 ∧ Holds l ρ
theorem Holds_nil (ρ : Regs) : Holds [] ρ = True := nr rfl
theorem Holds_cons (r : Nat) (v : Value) (l : List (Nat × Value)) (ρ : Regs) : Holds ((r, v) :: l) ρ = (ρ r = v ∧ Holds l ρ) := nr rfl
/-- Registers, and one more that holds something. -/
def RowQ (l : List (Nat × Value)) (ra : Nat) (I : Value → World → Prop) (ρ : Regs) (w : World) : Prop := Holds l ρ ∧ ∃ v, ρ ra = v ∧ I v w
def LoopQ (l : List (Nat × Value)) (ri : Nat) (I : Nat → World → Prop) (ρ : Regs) (w : World) : Prop := Holds l ρ ∧ ∃ j : Nat, ρ ri = .int .i32 j ∧ I j w
def EndQ (l : List (Nat × Value)) (I : World → Prop) (ρ : Regs) (w : World) : Prop := Holds l ρ ∧ I w
theorem slBase_00 (a : Option Addr) (s : Nat) : slBase a 0 0 s = a := by
  unfold slBase
  rw [if_pos rfl]
theorem RowJ.zero {size : Nat} {E : TypeId} {zc : List Value} {L N : Nat} {w : World} {a : Option Addr} (h0 : N = 0) (h : ∀ x, a = some x → L ≤ x.block ∧ x.block < w.heap.size) : RowJ size E zc L N 0 (.slice a 0 0) [] w := ⟨rfl, by simp [Css], .inl ⟨h0, _, rfl, h⟩⟩
theorem isSome_some {s : St} (h : ¬ s = none) : s.isSome = true := by
  cases s with
  | none => exact absurd rfl h
  | some x => rfl
theorem errV_none {s : St} {ev : Value} (h : s = none) : errV ev s = ev := by subst h; rfl
end Ms

namespace Ms
open Nat renaming reduceEqDiff → n0, reduceAdd → n1, reduceMul → n2, reduceSub → n3, reduceLT → n4, reduceLeDiff → n5
open Int renaming reduceEq → i0, reduceLT → i1, reduceLE → i2, reduceNeg → i3, reduceAdd → i4, reduceSub → i5, reduceMul → i6, reduceToNat → i7
set_option maxRecDepth 8000
open Go Go.Proofs Go.Shelf
attribute [local congr] W_congr WPsq_congr WPp_congr optK_congr addrK_congr intK_congr boolK_congr sliceK_congr tupleK_congr funcK_congr Fn_congr rawK_congr takeK_congr stepK_congr convK_congr aggK_congr

end Ms

namespace Ms
open Nat renaming reduceEqDiff → n0, reduceAdd → n1, reduceMul → n2, reduceSub → n3, reduceLT → n4, reduceLeDiff → n5
open Int renaming reduceEq → i0, reduceLT → i1, reduceLE → i2, reduceNeg → i3, reduceAdd → i4, reduceSub → i5, reduceMul → i6, reduceToNat → i7
set_option maxRecDepth 8000
open Go Go.Proofs Go.Shelf
attribute [local congr] W_congr WPsq_congr WPp_congr optK_congr addrK_congr intK_congr boolK_congr sliceK_congr tupleK_congr funcK_congr Fn_congr rawK_congr takeK_congr stepK_congr convK_congr aggK_congr

set_option maxHeartbeats 4000000 in
theorem readRemoveRaftVoterRequest_0 {d : Nat} {ok : Blocks} {ver : Int} {ev : Value} (hlo : 0 ≤ ver) (hhi : ver ≤ 0) (w : World) {vb : Nat} (src : Value) (s : List UInt8) (hv : blk w vb = some (#[.int .i16 ver, .pointer none, .int .i32 0, .int .u8 0, .int .u8 0, .int .u8 0, .int .u8 0, .int .u8 0, .int .u8 0, .int .u8 0, .int .u8 0, .int .u8 0, .int .u8 0, .int .u8 0, .int .u8 0, .int .u8 0, .int .u8 0, .int .u8 0, .int .u8 0, .map none], 90, (0, 0))) (hsrc : BytesV ok w src s) (hok0 : ∀ b, ok b → b < w.heap.size ∧ b ≠ vb) (hG : Glo ev w) (hgv : ¬ 0 = vb ∧ ¬ 1 = vb) :
    Fn Tryz.prog 96 #[.pointer (some ⟨vb, 0, none⟩), src, .bool false] w (ReadQ 90 ok ver (d + 1) fs_RemoveRaftVoterRequest vb w (rdP (d + 1) ver true fs_RemoveRaftVoterRequest (some s)) ev) := by
  have hvl := blk_lt hv
  have hgs := hG.lt
  obtain ⟨sa, sc, rfl, _⟩ := hsrc.shape
  refine fn_of_W Tryz.func96 rfl Tryz.results96 Tryz.ntmps96 rfl ?_
  repeat ((first | refine W.seqR rfl ?_ | refine W.seq ?_ | refine W.regR rfl ?_ | refine W.condK ?_ | refine W.block ?_ | refine W.skip ?_ | refine W.ret ?_ | refine W.exit ?_); try simp (maxSteps := 1000000) (disch := (first | omega | (simp only [World.size_alloc, size_wr, size_drew] <;> omega) | exact not_noB _)) only [go_sem, ↓reduceIte, n0, reduceCtorEq, n1, n2, n3, n4, n5, i0, i1, i2, i3, i4, i5, i6, i7, hv])
  refine (DefaultRemoveRaftVoterRequest_fn w hv).mono ?_
  rintro _ w0 ⟨hv0, hu0⟩
  have hz0 := hu0.size
  have hsrc0 : BytesV ok w0 (.slice sa s.length sc) s := hsrc.keep (hu0.keeps fun b _ hk e => (hok0 b hk).2 e)
  obtain ⟨rb, hrb⟩ : ∃ r, r = w0.heap.size := ⟨_, rfl⟩
  have hE1 : Ext w0 (wr (w0.alloc (.cells #[.slice none 0 0, .bool false] 153)) w0.heap.size 0 [.slice sa s.length sc, .bool false]) := (Upd.alloc (Upd.refl _ _) _).wr _ _ (.inl (Nat.le_refl _))
  have hz1 : (wr (w0.alloc (.cells #[.slice none 0 0, .bool false] 153)) w0.heap.size 0 [.slice sa s.length sc, .bool false]).heap.size = w0.heap.size + 1 := by rw [size_wr, World.size_alloc]
  have hR1 : Rdr RT ok (wr (w0.alloc (.cells #[.slice none 0 0, .bool false] 153)) w0.heap.size 0 [.slice sa s.length sc, .bool false]) w0.heap.size (some s) := Rdr.good (v := .slice sa s.length sc) (by simp (maxSteps := 1000000) (disch := (first | omega | (simp only [World.size_alloc, size_wr, size_drew] <;> omega) | exact not_noB _)) only [go_sem, ↓reduceIte, n0, reduceCtorEq, n1, n2, n3, n4, n5, i0, i1, i2, i3, i4, i5, i6, i7]) (hsrc0.keep (hE1.keeps _))
  have hv_1 := hE1.blk_some hv0 id
  repeat ((first | refine W.seqR rfl ?_ | refine W.seq ?_ | refine W.regR rfl ?_ | refine W.condK ?_ | refine W.block ?_ | refine W.skip ?_ | refine W.ret ?_ | refine W.exit ?_); try simp (maxSteps := 1000000) (disch := (first | omega | (simp only [World.size_alloc, size_wr, size_drew] <;> omega) | exact not_noB _)) only [go_sem, ↓reduceIte, n0, reduceCtorEq, n1, n2, n3, n4, n5, i0, i1, i2, i3, i4, i5, i6, i7, hv0])
  generalize (wr (w0.alloc (.cells #[.slice none 0 0, .bool false] 153)) w0.heap.size 0 [.slice sa s.length sc, .bool false]) = w1 at *
  rw [← hrb] at hR1
  try rw [← hrb]
  have hok : ∀ b, ok b → b < w.heap.size ∧ b ≠ vb := hok0
  have hrok : ¬ ok rb := fun h => by have := (hok rb h).1; omega
  have hbase : Upd (fun b => b = vb) w w1 := hu0.trans (hE1.mono fun _ h => h.elim)
  have hG1 : Glo ev w1 := hG.updS hbase hgv.1 hgv.2
  have hgrb : ¬ 0 = rb := by omega
  have hgM1 : ¬ (0 = vb ∨ 0 = rb) := fun h => h.elim hgv.1 fun h => by omega
  have hgM2 : ¬ (1 = vb ∨ 1 = rb) := fun h => h.elim hgv.2 fun h => by omega
  obtain ⟨s0, hs0⟩ : ∃ s' : St, s' = some s := ⟨_, rfl⟩
  rw [← hs0] at hR1 ⊢
  have hU1 : Upd (fun b => b = vb ∨ b = rb) w1 w1 := Upd.refl _ _
  have hoM : ∀ b, (ok b ∨ w1.heap.size ≤ b) → ¬ (b = vb ∨ b = rb) := fun b hk h => by
    rcases hk with hk | hk
    · have := hok b hk; rcases h with h | h <;> omega
    · rcases h with h | h <;> omega
  have hq1 : Rdr RT ok w1 rb s0 := hR1
  obtain ⟨FB, hFB⟩ : ∃ P : Prop, P = ((rdP (d + 1) ver true fs_RemoveRaftVoterRequest s0).2 = none) := ⟨_, rfl⟩
  have hb_0 : (rdL (rdP d ver true) (dfP d) ver true [fRemoveRaftVoterRequest_0, fRemoveRaftVoterRequest_1, fRemoveRaftVoterRequest_2] s0).2 = none → FB := fun h => Eq.mpr hFB (rdP_bad h)
  have hh_0 : hasS fRemoveRaftVoterRequest_0 ver = true := hasS_t (by show (0 : Int) ≤ ver; omega) (by show (-1 : Int) < 0 ∨ ver ≤ (-1 : Int); omega)
  obtain ⟨x_0, hx_0⟩ : ∃ x, x = (rdF (rdP d ver true) ver true fRemoveRaftVoterRequest_0 s0).1 := ⟨_, rfl⟩
  repeat ((first | refine W.seqR rfl ?_ | refine W.seq ?_ | refine W.regR rfl ?_ | refine W.condK ?_ | refine W.block ?_ | refine W.skip ?_ | refine W.ret ?_ | refine W.exit ?_); try simp (maxSteps := 1000000) (disch := (first | omega | (simp only [World.size_alloc, size_wr, size_drew] <;> omega) | exact not_noB _)) only [go_sem, ↓reduceIte, n0, reduceCtorEq, n1, n2, n3, n4, n5, i0, i1, i2, i3, i4, i5, i6, i7, hv_1])
  have hmay : mayS fRemoveRaftVoterRequest_0 ver = true := mayS_yes (by decide) (by show (0 : Int) ≤ ver; omega)
  have hrd : rdF (rdP d ver true) ver true fRemoveRaftVoterRequest_0 s0 = _ := rdF_ptr rfl hmay
  refine (RCompactNullableString_fn w1 hq1 hrok hG1.1 hgrb).mono ?_
  rintro r2 w2 ⟨hp2, hq2, hu2⟩
  obtain ⟨ap2, rfl⟩ := hp2.shape
  have hv_2 := hu2.blk_some hv_1 (by omega)
  have hV2 : Upd (fun b => b = vb ∨ b = rb) w1 w2 := hu2.mono (fun _ h => .inr h)
  have hU2 : Upd (fun b => b = vb ∨ b = rb) w1 w2 := hU1.trans hV2
  have hz2 := hV2.size
  have hG2 : Glo ev w2 := hG1.updS hU2 hgM1 hgM2
  have hst : (rdF (rdP d ver true) ver true fRemoveRaftVoterRequest_0 s0).2 = (rdNStr true s0).2 := by first | (rw [hrd]; rfl) | rw [hrd]
  obtain ⟨s1, hs1⟩ : ∃ s, s = (rdF (rdP d ver true) ver true fRemoveRaftVoterRequest_0 s0).2 := ⟨_, rfl⟩
  rw [← hst, ← hs1] at hq2
  clear hst
  repeat ((first | refine W.seqR rfl ?_ | refine W.seq ?_ | refine W.regR rfl ?_ | refine W.condK ?_ | refine W.block ?_ | refine W.skip ?_ | refine W.ret ?_ | refine W.exit ?_); try simp (maxSteps := 1000000) (disch := (first | omega | (simp only [World.size_alloc, size_wr, size_drew] <;> omega) | exact not_noB _)) only [go_sem, ↓reduceIte, n0, reduceCtorEq, n1, n2, n3, n4, n5, i0, i1, i2, i3, i4, i5, i6, i7, hv_2])
  generalize hw3 : wr w2 vb 1 [.pointer ap2] = w3
  have hS3 : Upd (fun b => b = vb ∨ b = rb) w2 w3 := by rw [← hw3]; exact (Upd.refl _ _).wr _ _ (.inr (.inl rfl))
  have hv_3 : blk w3 vb = some (#[.int .i16 ver, .pointer ap2, .int .i32 0, .int .u8 0, .int .u8 0, .int .u8 0, .int .u8 0, .int .u8 0, .int .u8 0, .int .u8 0, .int .u8 0, .int .u8 0, .int .u8 0, .int .u8 0, .int .u8 0, .int .u8 0, .int .u8 0, .int .u8 0, .int .u8 0, .map none], 90, (0, 0)) := by rw [← hw3, blk_wr_eq, hv_2]; rfl
  have hV3 := hS3
  have hU3 : Upd (fun b => b = vb ∨ b = rb) w1 w3 := hU2.trans hV3
  have hz3 := hV3.size
  have hG3 : Glo ev w3 := hG1.updS hU3 hgM1 hgM2
  have hq3 : Rdr RT ok w3 rb s1 ∧ NN w3 rb s1 := by
    have hn : ∀ x, x = w3 → (Rdr RT ok x rb s1 ∧ NN x rb s1) := fun x hx => by
      rw [hx, ← hw3]
      exact Rdr.store hq2 (by omega) (fun h => by have := (hok _ h).1; first | omega | exact (hok _ h).2 rfl)
    exact hn _ rfl
  clear hw3
  have hf_0 : RepF (RepS true d) (szS true d) fRemoveRaftVoterRequest_0 (fun b => ok b ∨ w1.heap.size ≤ b) w3 (x_0) [.pointer ap2] := (RepF_ptr rfl (by decide)).2 ⟨_, rfl, by rw [hx_0, hrd]; exact (hp2.weaken fun b _ hk => by have hk' : w1.heap.size ≤ b := hk; exact .inr (by omega)).keep (hV3.keeps fun b _ hk e => (hoM b hk) e)⟩
  clear hrd
  have hb_1 : (rdL (rdP d ver true) (dfP d) ver true [fRemoveRaftVoterRequest_1, fRemoveRaftVoterRequest_2] s1).2 = none → FB := fun h => hb_0 (by rw [rdL_st (by decide) hh_0, ← hs1]; exact h)
  have hh_1 : hasS fRemoveRaftVoterRequest_1 ver = true := hasS_t (by show (0 : Int) ≤ ver; omega) (by show (-1 : Int) < 0 ∨ ver ≤ (-1 : Int); omega)
  obtain ⟨x_1, hx_1⟩ : ∃ x, x = (rdF (rdP d ver true) ver true fRemoveRaftVoterRequest_1 s1).1 := ⟨_, rfl⟩
  repeat ((first | refine W.seqR rfl ?_ | refine W.seq ?_ | refine W.regR rfl ?_ | refine W.condK ?_ | refine W.block ?_ | refine W.skip ?_ | refine W.ret ?_ | refine W.exit ?_); try simp (maxSteps := 1000000) (disch := (first | omega | (simp only [World.size_alloc, size_wr, size_drew] <;> omega) | exact not_noB _)) only [go_sem, ↓reduceIte, n0, reduceCtorEq, n1, n2, n3, n4, n5, i0, i1, i2, i3, i4, i5, i6, i7, hv_3])
  have hrd : rdF (rdP d ver true) ver true fRemoveRaftVoterRequest_1 s1 = _ := rdF_num 3 rfl (by decide)
  refine (Int32_fn w3 hq3.1 hrok hG3.1 hgrb).mono ?_
  rintro _ w4 ⟨rfl, hq4, hu4⟩
  have hv_4 := hu4.blk_some hv_3 (by omega)
  have hV4 : Upd (fun b => b = vb ∨ b = rb) w3 w4 := hu4.mono (fun _ h => .inr h)
  have hU4 : Upd (fun b => b = vb ∨ b = rb) w1 w4 := hU3.trans hV4
  have hz4 := hV4.size
  have hG4 : Glo ev w4 := hG1.updS hU4 hgM1 hgM2
  have hst : (rdF (rdP d ver true) ver true fRemoveRaftVoterRequest_1 s1).2 = (rdInt .i32 4 s1).2 := by first | (rw [hrd]; rfl) | rw [hrd]
  obtain ⟨s2, hs2⟩ : ∃ s, s = (rdF (rdP d ver true) ver true fRemoveRaftVoterRequest_1 s1).2 := ⟨_, rfl⟩
  rw [← hst, ← hs2] at hq4
  clear hst
  repeat ((first | refine W.seqR rfl ?_ | refine W.seq ?_ | refine W.regR rfl ?_ | refine W.condK ?_ | refine W.block ?_ | refine W.skip ?_ | refine W.ret ?_ | refine W.exit ?_); try simp (maxSteps := 1000000) (disch := (first | omega | (simp only [World.size_alloc, size_wr, size_drew] <;> omega) | exact not_noB _)) only [go_sem, ↓reduceIte, n0, reduceCtorEq, n1, n2, n3, n4, n5, i0, i1, i2, i3, i4, i5, i6, i7, hv_4])
  generalize hw5 : wr w4 vb 2 [.int .i32 (rdInt .i32 4 s1).1] = w5
  have hS5 : Upd (fun b => b = vb ∨ b = rb) w4 w5 := by rw [← hw5]; exact (Upd.refl _ _).wr _ _ (.inr (.inl rfl))
  have hv_5 : blk w5 vb = some (#[.int .i16 ver, .pointer ap2, .int .i32 (rdInt .i32 4 s1).1, .int .u8 0, .int .u8 0, .int .u8 0, .int .u8 0, .int .u8 0, .int .u8 0, .int .u8 0, .int .u8 0, .int .u8 0, .int .u8 0, .int .u8 0, .int .u8 0, .int .u8 0, .int .u8 0, .int .u8 0, .int .u8 0, .map none], 90, (0, 0)) := by rw [← hw5, blk_wr_eq, hv_4]; rfl
  have hV5 := hS5
  have hU5 : Upd (fun b => b = vb ∨ b = rb) w1 w5 := hU4.trans hV5
  have hz5 := hV5.size
  have hG5 : Glo ev w5 := hG1.updS hU5 hgM1 hgM2
  have hq5 : Rdr RT ok w5 rb s2 ∧ NN w5 rb s2 := by
    have hn : ∀ x, x = w5 → (Rdr RT ok x rb s2 ∧ NN x rb s2) := fun x hx => by
      rw [hx, ← hw5]
      exact Rdr.store hq4 (by omega) (fun h => by have := (hok _ h).1; first | omega | exact (hok _ h).2 rfl)
    exact hn _ rfl
  clear hw5
  have hf_1 : RepF (RepS true d) (szS true d) fRemoveRaftVoterRequest_1 (fun b => ok b ∨ w1.heap.size ≤ b) w5 (x_1) [.int .i32 (rdInt .i32 4 s1).1] := (RepF_num (by decide)).2 (by rw [hx_1, hrd]; exact congrArg (fun x => [x]) (numC_rd 3 (by decide) 4 s1).symm)
  clear hrd
  have hb_2 : (rdL (rdP d ver true) (dfP d) ver true [fRemoveRaftVoterRequest_2] s2).2 = none → FB := fun h => hb_1 (by rw [rdL_st (by decide) hh_1, ← hs2]; exact h)
  have hh_2 : hasS fRemoveRaftVoterRequest_2 ver = true := hasS_t (by show (0 : Int) ≤ ver; omega) (by show (-1 : Int) < 0 ∨ ver ≤ (-1 : Int); omega)
  obtain ⟨x_2, hx_2⟩ : ∃ x, x = (rdF (rdP d ver true) ver true fRemoveRaftVoterRequest_2 s2).1 := ⟨_, rfl⟩
  repeat ((first | refine W.seqR rfl ?_ | refine W.seq ?_ | refine W.regR rfl ?_ | refine W.condK ?_ | refine W.block ?_ | refine W.skip ?_ | refine W.ret ?_ | refine W.exit ?_); try simp (maxSteps := 1000000) (disch := (first | omega | (simp only [World.size_alloc, size_wr, size_drew] <;> omega) | exact not_noB _)) only [go_sem, ↓reduceIte, n0, reduceCtorEq, n1, n2, n3, n4, n5, i0, i1, i2, i3, i4, i5, i6, i7, hv_5])
  have hrd : rdF (rdP d ver true) ver true fRemoveRaftVoterRequest_2 s2 = _ := rdF_uuid rfl
  refine (RUuid_fn w5 hq5.1 hrok).mono ?_
  rintro _ w6 ⟨rfl, hq6, hu6⟩
  have hv_6 := hu6.blk_some hv_5 (by omega)
  have hV6 : Upd (fun b => b = vb ∨ b = rb) w5 w6 := hu6.mono (fun _ h => .inr h)
  have hU6 : Upd (fun b => b = vb ∨ b = rb) w1 w6 := hU5.trans hV6
  have hz6 := hV6.size
  have hG6 : Glo ev w6 := hG1.updS hU6 hgM1 hgM2
  have hst : (rdF (rdP d ver true) ver true fRemoveRaftVoterRequest_2 s2).2 = (rdSpan 16 s2).2 := by first | (rw [hrd]; rfl) | rw [hrd]
  obtain ⟨s3, hs3⟩ : ∃ s, s = (rdF (rdP d ver true) ver true fRemoveRaftVoterRequest_2 s2).2 := ⟨_, rfl⟩
  rw [← hst, ← hs3] at hq6
  clear hst
  have hl16 : ((uuidS (rdSpan 16 s2).1).map byteV).length = 16 := by rw [List.length_map, uuidS_len]
  have hx16 := flat_bytes (uuidS (rdSpan 16 s2).1)
  have hxe : x_2 = .oct false (uuidS (rdSpan 16 s2).1) := by rw [hx_2, hrd]
  have hxc : (uuidS (x_2).s).map byteV = (uuidS (rdSpan 16 s2).1).map byteV := by rw [hxe]; show (uuidS (uuidS _)).map byteV = _; rw [uuidS_idem]
  generalize (uuidS (rdSpan 16 s2).1).map byteV = Xu at *
  obtain ⟨u2_0, u2_1, u2_2, u2_3, u2_4, u2_5, u2_6, u2_7, u2_8, u2_9, u2_10, u2_11, u2_12, u2_13, u2_14, u2_15, rfl⟩ := list16 hl16
  simp only [List.all_cons, List.all_nil, Bool.and_true, Bool.and_eq_true] at hx16
  obtain ⟨fu2_0, fu2_1, fu2_2, fu2_3, fu2_4, fu2_5, fu2_6, fu2_7, fu2_8, fu2_9, fu2_10, fu2_11, fu2_12, fu2_13, fu2_14, fu2_15⟩ := hx16
  have hcz : cellsAt #[u2_0, u2_1, u2_2, u2_3, u2_4, u2_5, u2_6, u2_7, u2_8, u2_9, u2_10, u2_11, u2_12, u2_13, u2_14, u2_15] 0 16 = some (.agg #[u2_0, u2_1, u2_2, u2_3, u2_4, u2_5, u2_6, u2_7, u2_8, u2_9, u2_10, u2_11, u2_12, u2_13, u2_14, u2_15]) := cellsAt_full rfl
  try simp (maxSteps := 1000000) (disch := (first | omega | (simp only [World.size_alloc, size_wr, size_drew] <;> omega) | exact not_noB _)) only [go_sem, ↓reduceIte, n0, reduceCtorEq, n1, n2, n3, n4, n5, i0, i1, i2, i3, i4, i5, i6, i7, hv_6, hcz, fu2_0, fu2_1, fu2_2, fu2_3, fu2_4, fu2_5, fu2_6, fu2_7, fu2_8, fu2_9, fu2_10, fu2_11, fu2_12, fu2_13, fu2_14, fu2_15]
  repeat ((first | refine W.seqR rfl ?_ | refine W.seq ?_ | refine W.regR rfl ?_ | refine W.condK ?_ | refine W.block ?_ | refine W.skip ?_ | refine W.ret ?_ | refine W.exit ?_); try simp (maxSteps := 1000000) (disch := (first | omega | (simp only [World.size_alloc, size_wr, size_drew] <;> omega) | exact not_noB _)) only [go_sem, ↓reduceIte, n0, reduceCtorEq, n1, n2, n3, n4, n5, i0, i1, i2, i3, i4, i5, i6, i7, hv_6, hcz, fu2_0, fu2_1, fu2_2, fu2_3, fu2_4, fu2_5, fu2_6, fu2_7, fu2_8, fu2_9, fu2_10, fu2_11, fu2_12, fu2_13, fu2_14, fu2_15])
  have hEu : Ext w6 (wr (w6.alloc (.cells #[.int .u8 0, .int .u8 0, .int .u8 0, .int .u8 0, .int .u8 0, .int .u8 0, .int .u8 0, .int .u8 0, .int .u8 0, .int .u8 0, .int .u8 0, .int .u8 0, .int .u8 0, .int .u8 0, .int .u8 0, .int .u8 0] 88)) w6.heap.size 0 [u2_0, u2_1, u2_2, u2_3, u2_4, u2_5, u2_6, u2_7, u2_8, u2_9, u2_10, u2_11, u2_12, u2_13, u2_14, u2_15]) := (Upd.alloc (Upd.refl _ _) _).wr _ _ (.inl (Nat.le_refl _))
  have hq7 := And.intro (hq6.1.upd hEu (fun h => h) (fun _ _ _ h => h)) (hq6.2.upd hEu fun h => h)
  have hu7 : Upd (fun b => b = rb) w6 (wr (w6.alloc (.cells #[.int .u8 0, .int .u8 0, .int .u8 0, .int .u8 0, .int .u8 0, .int .u8 0, .int .u8 0, .int .u8 0, .int .u8 0, .int .u8 0, .int .u8 0, .int .u8 0, .int .u8 0, .int .u8 0, .int .u8 0, .int .u8 0] 88)) w6.heap.size 0 [u2_0, u2_1, u2_2, u2_3, u2_4, u2_5, u2_6, u2_7, u2_8, u2_9, u2_10, u2_11, u2_12, u2_13, u2_14, u2_15]) := hEu.mono fun _ h => h.elim
  clear hEu
  generalize (wr (w6.alloc (.cells #[.int .u8 0, .int .u8 0, .int .u8 0, .int .u8 0, .int .u8 0, .int .u8 0, .int .u8 0, .int .u8 0, .int .u8 0, .int .u8 0, .int .u8 0, .int .u8 0, .int .u8 0, .int .u8 0, .int .u8 0, .int .u8 0] 88)) w6.heap.size 0 [u2_0, u2_1, u2_2, u2_3, u2_4, u2_5, u2_6, u2_7, u2_8, u2_9, u2_10, u2_11, u2_12, u2_13, u2_14, u2_15]) = w7 at *
  have hv_7 := hu7.blk_some hv_6 (by omega)
  have hV7 : Upd (fun b => b = vb ∨ b = rb) w6 w7 := hu7.mono (fun _ h => .inr h)
  have hU7 : Upd (fun b => b = vb ∨ b = rb) w1 w7 := hU6.trans hV7
  have hz7 := hV7.size
  have hG7 : Glo ev w7 := hG1.updS hU7 hgM1 hgM2
  generalize hw8 : wr w7 vb 3 [u2_0, u2_1, u2_2, u2_3, u2_4, u2_5, u2_6, u2_7, u2_8, u2_9, u2_10, u2_11, u2_12, u2_13, u2_14, u2_15] = w8
  have hS8 : Upd (fun b => b = vb ∨ b = rb) w7 w8 := by rw [← hw8]; exact (Upd.refl _ _).wr _ _ (.inr (.inl rfl))
  have hv_8 : blk w8 vb = some (#[.int .i16 ver, .pointer ap2, .int .i32 (rdInt .i32 4 s1).1, u2_0, u2_1, u2_2, u2_3, u2_4, u2_5, u2_6, u2_7, u2_8, u2_9, u2_10, u2_11, u2_12, u2_13, u2_14, u2_15, .map none], 90, (0, 0)) := by rw [← hw8, blk_wr_eq, hv_7]; simp only [Option.map_some, wrArr_cons, wrArr_nil, List.setIfInBounds_toArray, List.set_cons_zero, List.set_cons_succ, Nat.reduceAdd]
  have hV8 := hS8
  have hU8 : Upd (fun b => b = vb ∨ b = rb) w1 w8 := hU7.trans hV8
  have hz8 := hV8.size
  have hG8 : Glo ev w8 := hG1.updS hU8 hgM1 hgM2
  have hq8 : Rdr RT ok w8 rb s3 ∧ NN w8 rb s3 := by
    have hn : ∀ x, x = w8 → (Rdr RT ok x rb s3 ∧ NN x rb s3) := fun x hx => by
      rw [hx, ← hw8]
      exact Rdr.store hq7 (by omega) (fun h => by have := (hok _ h).1; first | omega | exact (hok _ h).2 rfl)
    exact hn _ rfl
  clear hw8
  have hf_2 : RepF (RepS true d) (szS true d) fRemoveRaftVoterRequest_2 (fun b => ok b ∨ w1.heap.size ≤ b) w8 (x_2) [u2_0, u2_1, u2_2, u2_3, u2_4, u2_5, u2_6, u2_7, u2_8, u2_9, u2_10, u2_11, u2_12, u2_13, u2_14, u2_15] := (RepF_uuid rfl).2 hxc.symm
  clear hrd
  have hl_3 : rdL (rdP d ver true) (dfP d) ver true [] s3 = ([], s3) := rfl
  have hl_2 : rdL (rdP d ver true) (dfP d) ver true [fRemoveRaftVoterRequest_2] s2 = ([x_2], s3) := by rw [rdL_st (by decide) hh_2, ← hx_2, ← hs3, hl_3]
  have hl_1 : rdL (rdP d ver true) (dfP d) ver true [fRemoveRaftVoterRequest_1, fRemoveRaftVoterRequest_2] s1 = ([x_1, x_2], s3) := by rw [rdL_st (by decide) hh_1, ← hx_1, ← hs2, hl_2]
  have hl_0 : rdL (rdP d ver true) (dfP d) ver true [fRemoveRaftVoterRequest_0, fRemoveRaftVoterRequest_1, fRemoveRaftVoterRequest_2] s0 = ([x_0, x_1, x_2], s3) := by rw [rdL_st (by decide) hh_0, ← hx_0, ← hs1, hl_1]
  have hfin : rdP (d + 1) ver true fs_RemoveRaftVoterRequest s0 = (.mk 0 [] false [x_0, x_1, x_2] (rdTags s3).1, (rdTags s3).2) := rdP_t hl_0
  repeat ((first | refine W.seqR rfl ?_ | refine W.seq ?_ | refine W.regR rfl ?_ | refine W.condK ?_ | refine W.block ?_ | refine W.skip ?_ | refine W.ret ?_ | refine W.exit ?_); try simp (maxSteps := 1000000) (disch := (first | omega | (simp only [World.size_alloc, size_wr, size_drew] <;> omega) | exact not_noB _)) only [go_sem, ↓reduceIte, n0, reduceCtorEq, n1, n2, n3, n4, n5, i0, i1, i2, i3, i4, i5, i6, i7, hv_8])
  refine (ReadTags_fn w8 hq8.1 hrok).mono ?_
  rintro _ w9 ⟨qm, rfl, hT9, hTn, hq9, hu9⟩
  have hv_9 := hu9.blk_some hv_8 (by omega)
  have hV9 : Upd (fun b => b = vb ∨ b = rb) w8 w9 := hu9.mono (fun _ h => .inr h)
  have hU9 : Upd (fun b => b = vb ∨ b = rb) w1 w9 := hU8.trans hV9
  have hz9 := hV9.size
  have hG9 : Glo ev w9 := hG1.updS hU9 hgM1 hgM2
  obtain ⟨s4, hs4⟩ : ∃ s, s = (rdTags s3).2 := ⟨_, rfl⟩
  rw [← hs4] at hq9 hfin
  try simp (maxSteps := 1000000) (disch := (first | omega | (simp only [World.size_alloc, size_wr, size_drew] <;> omega) | exact not_noB _)) only [go_sem, ↓reduceIte, n0, reduceCtorEq, n1, n2, n3, n4, n5, i0, i1, i2, i3, i4, i5, i6, i7, hv_9]
  repeat ((first | refine W.seqR rfl ?_ | refine W.seq ?_ | refine W.regR rfl ?_ | refine W.condK ?_ | refine W.block ?_ | refine W.skip ?_ | refine W.ret ?_ | refine W.exit ?_); try simp (maxSteps := 1000000) (disch := (first | omega | (simp only [World.size_alloc, size_wr, size_drew] <;> omega) | exact not_noB _)) only [go_sem, ↓reduceIte, n0, reduceCtorEq, n1, n2, n3, n4, n5, i0, i1, i2, i3, i4, i5, i6, i7, hv_9])
  generalize hw10 : wr w9 vb 19 [.map qm] = w10
  have hS10 : Upd (fun b => b = vb ∨ b = rb) w9 w10 := by rw [← hw10]; exact (Upd.refl _ _).wr _ _ (.inr (.inl rfl))
  have hv_10 : blk w10 vb = some (#[.int .i16 ver, .pointer ap2, .int .i32 (rdInt .i32 4 s1).1, u2_0, u2_1, u2_2, u2_3, u2_4, u2_5, u2_6, u2_7, u2_8, u2_9, u2_10, u2_11, u2_12, u2_13, u2_14, u2_15, .map qm], 90, (0, 0)) := by rw [← hw10, blk_wr_eq, hv_9]; rfl
  have hV10 := hS10
  have hU10 : Upd (fun b => b = vb ∨ b = rb) w1 w10 := hU9.trans hV10
  have hz10 := hV10.size
  have hG10 : Glo ev w10 := hG1.updS hU10 hgM1 hgM2
  have hq10 : Rdr RT ok w10 rb s4 ∧ NN w10 rb s4 := by
    have hn : ∀ x, x = w10 → (Rdr RT ok x rb s4 ∧ NN x rb s4) := fun x hx => by
      rw [hx, ← hw10]
      exact Rdr.store hq9 (by omega) (fun h => by have := (hok _ h).1; first | omega | exact (hok _ h).2 rfl)
    exact hn _ rfl
  clear hw10
  have hTg : TagsM (fun b => ok b ∨ w1.heap.size ≤ b) w10 (.map qm) (rdTags s3).1 := (hT9.weaken fun b _ hk => hk.elim (fun hk => .inl hk) (fun h => by have h' : w8.heap.size ≤ b := h; exact .inr (by omega))).keep (hV10.keeps fun b _ hk e => (hoM b hk) e)
  have hC_10 : Upd (fun b => b = vb ∨ b = rb) w10 w10 := Upd.refl _ _
  have hC_9 : Upd (fun b => b = vb ∨ b = rb) w9 w10 := hV10.trans hC_10
  have hC_8 : Upd (fun b => b = vb ∨ b = rb) w8 w10 := hV9.trans hC_9
  have hC_7 : Upd (fun b => b = vb ∨ b = rb) w7 w10 := hV8.trans hC_8
  have hC_6 : Upd (fun b => b = vb ∨ b = rb) w6 w10 := hV7.trans hC_7
  have hC_5 : Upd (fun b => b = vb ∨ b = rb) w5 w10 := hV6.trans hC_6
  have hC_4 : Upd (fun b => b = vb ∨ b = rb) w4 w10 := hV5.trans hC_5
  have hC_3 : Upd (fun b => b = vb ∨ b = rb) w3 w10 := hV4.trans hC_4
  have hC_2 : Upd (fun b => b = vb ∨ b = rb) w2 w10 := hV3.trans hC_3
  have hC_1 : Upd (fun b => b = vb ∨ b = rb) w1 w10 := hV2.trans hC_2
  have hR : RepS true (d + 1) fs_RemoveRaftVoterRequest (fun b => ok b ∨ w1.heap.size ≤ b) w10 (.mk 0 [] false [x_0, x_1, x_2] (rdTags s3).1) [.pointer ap2, .int .i32 (rdInt .i32 4 s1).1, u2_0, u2_1, u2_2, u2_3, u2_4, u2_5, u2_6, u2_7, u2_8, u2_9, u2_10, u2_11, u2_12, u2_13, u2_14, u2_15, .map qm] := RepS.introT (c := [.pointer ap2, .int .i32 (rdInt .i32 4 s1).1, u2_0, u2_1, u2_2, u2_3, u2_4, u2_5, u2_6, u2_7, u2_8, u2_9, u2_10, u2_11, u2_12, u2_13, u2_14, u2_15]) (RepL.cons1 (hf_0.keepS (hC_3.keeps fun b _ hk e => (hoM b hk) e)) (RepL.cons1 (hf_1.keepS (hC_5.keeps fun b _ hk e => (hoM b hk) e)) (RepL.cons16 (hf_2.keepS (hC_8.keeps fun b _ hk e => (hoM b hk) e)) RepL.nil))) hTg
  repeat ((first | refine W.seqR rfl ?_ | refine W.seq ?_ | refine W.regR rfl ?_ | refine W.condK ?_ | refine W.block ?_ | refine W.skip ?_ | refine W.ret ?_ | refine W.exit ?_); try simp (maxSteps := 1000000) (disch := (first | omega | (simp only [World.size_alloc, size_wr, size_drew] <;> omega) | exact not_noB _)) only [go_sem, ↓reduceIte, n0, reduceCtorEq, n1, n2, n3, n4, n5, i0, i1, i2, i3, i4, i5, i6, i7, hv_10])
  refine (RComplete_fn w10 hq10.1 hG10.2).mono ?_
  rintro _ wz ⟨rfl, hez⟩
  rw [hez]
  repeat ((first | refine W.seqR rfl ?_ | refine W.seq ?_ | refine W.regR rfl ?_ | refine W.condK ?_ | refine W.block ?_ | refine W.skip ?_ | refine W.ret ?_ | refine W.exit ?_); try simp (maxSteps := 1000000) (disch := (first | omega | (simp only [World.size_alloc, size_wr, size_drew] <;> omega) | exact not_noB _)) only [go_sem, ↓reduceIte, n0, reduceCtorEq, n1, n2, n3, n4, n5, i0, i1, i2, i3, i4, i5, i6, i7, hv_10])
  rw [hfin]
  refine ⟨fun h => ?_, fun h => ⟨?_, [.pointer ap2, .int .i32 (rdInt .i32 4 s1).1, u2_0, u2_1, u2_2, u2_3, u2_4, u2_5, u2_6, u2_7, u2_8, u2_9, u2_10, u2_11, u2_12, u2_13, u2_14, u2_15, .map qm], hv_10, ?_⟩, ?_⟩
  · have h' : s4 = none := h
    rw [h']; rfl
  · cases hsn : s4 with
    | none => exact absurd hsn h
    | some x => rfl
  · exact (RepS_lay true (d + 1) fs_RemoveRaftVoterRequest).weaken hR fun b _ hk => hk.imp id fun h => by omega
  · exact hbase.trans' hU10 fun i hi h => h.elim id fun h => by omega
end Ms

namespace Ms
open Nat renaming reduceEqDiff → n0, reduceAdd → n1, reduceMul → n2, reduceSub → n3, reduceLT → n4, reduceLeDiff → n5
open Int renaming reduceEq → i0, reduceLT → i1, reduceLE → i2, reduceNeg → i3, reduceAdd → i4, reduceSub → i5, reduceMul → i6, reduceToNat → i7
set_option maxRecDepth 8000
open Go Go.Proofs Go.Shelf
attribute [local congr] W_congr WPsq_congr WPp_congr optK_congr addrK_congr intK_congr boolK_congr sliceK_congr tupleK_congr funcK_congr Fn_congr rawK_congr takeK_congr stepK_congr convK_congr aggK_congr

theorem ReadFromRemoveRaftVoterRequest_fn {d : Nat} {ok : Blocks} {ver : Int} {ev : Value} (hlo : 0 ≤ ver) (hhi : ver ≤ 0) (w : World) {vb : Nat} (src : Value) (s : List UInt8) (hv : blk w vb = some (#[.int .i16 ver, .pointer none, .int .i32 0, .int .u8 0, .int .u8 0, .int .u8 0, .int .u8 0, .int .u8 0, .int .u8 0, .int .u8 0, .int .u8 0, .int .u8 0, .int .u8 0, .int .u8 0, .int .u8 0, .int .u8 0, .int .u8 0, .int .u8 0, .int .u8 0, .map none], 90, (0, 0))) (hsrc : BytesV ok w src s) (hok0 : ∀ b, ok b → b < w.heap.size ∧ b ≠ vb) (hG : Glo ev w) (hgv : ¬ 0 = vb ∧ ¬ 1 = vb) :
    Fn Tryz.prog 45 #[.pointer (some ⟨vb, 0, none⟩), src] w (ReadQ 90 ok ver (d + 1) fs_RemoveRaftVoterRequest vb w (rdP (d + 1) ver (flexB 0 ver) fs_RemoveRaftVoterRequest (some s)) ev) := by
  obtain ⟨sa, sc, rfl, _⟩ := hsrc.shape
  refine fn_of_W Tryz.func45 rfl Tryz.results45 Tryz.ntmps45 rfl ?_
  repeat ((first | refine W.seqR rfl ?_ | refine W.seq ?_ | refine W.regR rfl ?_ | refine W.condK ?_ | refine W.block ?_ | refine W.skip ?_ | refine W.ret ?_ | refine W.exit ?_); try simp (maxSteps := 1000000) (disch := (first | omega | (simp only [World.size_alloc, size_wr, size_drew] <;> omega) | exact not_noB _)) only [go_sem, ↓reduceIte, n0, reduceCtorEq, n1, n2, n3, n4, n5, i0, i1, i2, i3, i4, i5, i6, i7])
  have hcl : (0 ≤ ver ∧ ver ≤ 0) := by omega
  rcases hcl with ⟨h1, h2⟩
  · have hfl : flexB 0 ver = true := by simp only [flexB, Bool.and_eq_true, decide_eq_true_eq]; omega
    rw [hfl]
    refine (readRemoveRaftVoterRequest_0 (d := d) h1 h2 w _ s hv hsrc hok0 hG hgv).mono ?_
    rintro r5 w5 h5
    repeat ((first | refine W.seqR rfl ?_ | refine W.seq ?_ | refine W.regR rfl ?_ | refine W.condK ?_ | refine W.block ?_ | refine W.skip ?_ | refine W.ret ?_ | refine W.exit ?_); try simp (maxSteps := 1000000) (disch := (first | omega | (simp only [World.size_alloc, size_wr, size_drew] <;> omega) | exact not_noB _)) only [go_sem, ↓reduceIte, n0, reduceCtorEq, n1, n2, n3, n4, n5, i0, i1, i2, i3, i4, i5, i6, i7])
    all_goals exact h5

end Ms

namespace Ms
open Nat renaming reduceEqDiff → n0, reduceAdd → n1, reduceMul → n2, reduceSub → n3, reduceLT → n4, reduceLeDiff → n5
open Int renaming reduceEq → i0, reduceLT → i1, reduceLE → i2, reduceNeg → i3, reduceAdd → i4, reduceSub → i5, reduceMul → i6, reduceToNat → i7
set_option maxRecDepth 8000
open Go Go.Proofs Go.Shelf
attribute [local congr] W_congr WPsq_congr WPp_congr optK_congr addrK_congr intK_congr boolK_congr sliceK_congr tupleK_congr funcK_congr Fn_congr rawK_congr takeK_congr stepK_congr convK_congr aggK_congr

set_option maxHeartbeats 4000000 in
theorem appRemoveRaftVoterRequest_0 {d B : Nat} {okM : Blocks} {ver : Int} (hlo : 0 ≤ ver) (hhi : ver ≤ 0) (t : Tree) (cells : List Value) (v : Value) (s : List UInt8) (w : World) {vb : Nat} (ho : OwnBy 5 B w v s) (hB : B ≤ w.heap.size) (hvb : blk w vb = some ((.int .i16 ver :: cells).toArray, 90, (0, 0)))
    (hR : RepS true (d + 1) fs_RemoveRaftVoterRequest okM w t cells) (hfit : FitW ver (d + 1) fs_RemoveRaftVoterRequest t) (hd : ∀ b, b < w.heap.size → okM b → ¬ ownB v b) (hdv : ¬ ownB v vb) (hlen : s.length + (partS (d + 1) fs_RemoveRaftVoterRequest ver true t).length ≤ 2 ^ 41) :
    Fn Tryz.prog 46 #[.pointer (some ⟨vb, 0, none⟩), v] w fun r w' => AppR 5 B w v s (partS (d + 1) fs_RemoveRaftVoterRequest ver true t) r w' := by
  obtain ⟨⟨g_0, g_1, g_2, -⟩, hfu⟩ := hfit
  replace g_0 : hasS fRemoveRaftVoterRequest_0 ver = true → FitWF (FitW ver d) ver fRemoveRaftVoterRequest_0 (t.at 0) := g_0
  have hh_0 : hasS fRemoveRaftVoterRequest_0 ver = true := hasS_t (by show (0 : Int) ≤ ver; omega) (by show (-1 : Int) < 0 ∨ ver ≤ (-1 : Int); omega)
  replace g_0 := g_0 hh_0
  replace g_1 : hasS fRemoveRaftVoterRequest_1 ver = true → FitWF (FitW ver d) ver fRemoveRaftVoterRequest_1 (t.at 1) := g_1
  have hh_1 : hasS fRemoveRaftVoterRequest_1 ver = true := hasS_t (by show (0 : Int) ≤ ver; omega) (by show (-1 : Int) < 0 ∨ ver ≤ (-1 : Int); omega)
  replace g_1 := g_1 hh_1
  replace g_2 : hasS fRemoveRaftVoterRequest_2 ver = true → FitWF (FitW ver d) ver fRemoveRaftVoterRequest_2 (t.at 2) := g_2
  have hh_2 : hasS fRemoveRaftVoterRequest_2 ver = true := hasS_t (by show (0 : Int) ≤ ver; omega) (by show (-1 : Int) < 0 ∨ ver ≤ (-1 : Int); omega)
  replace g_2 := g_2 hh_2
  obtain ⟨cs, q, hcs, hL, hT⟩ := hR.inv
  obtain ⟨c_0, e_0, rfl, h_0, c_1, e_1, rfl, h_1, c_2, e_2, rfl, h_2, rfl⟩ := hL
  replace h_0 : RepF (RepS true d) (szS true d) fRemoveRaftVoterRequest_0 okM w (t.at 0) c_0 := h_0
  replace h_1 : RepF (RepS true d) (szS true d) fRemoveRaftVoterRequest_1 okM w (t.at 1) c_1 := h_1
  replace h_2 : RepF (RepS true d) (szS true d) fRemoveRaftVoterRequest_2 okM w (t.at 2) c_2 := h_2
  obtain ⟨p_0, rfl, hp_0⟩ := (RepF_ptr rfl (by decide)).1 h_0
  obtain rfl := (RepF_num (by decide)).1 h_1
  obtain rfl := (RepF_uuid rfl).1 h_2
  have hx16_2 : ((uuidS (t.at 2).s).map byteV).length = 16 := by rw [List.length_map, uuidS_len]
  have hfx_2 := flat_bytes (uuidS (t.at 2).s)
  generalize hX_2 : (uuidS (t.at 2).s).map byteV = Z_2 at *
  obtain ⟨z_2_0, z_2_1, z_2_2, z_2_3, z_2_4, z_2_5, z_2_6, z_2_7, z_2_8, z_2_9, z_2_10, z_2_11, z_2_12, z_2_13, z_2_14, z_2_15, rfl⟩ := list16 hx16_2
  simp only [List.all_cons, List.all_nil, Bool.and_true, Bool.and_eq_true] at hfx_2
  obtain ⟨fz_2_0, fz_2_1, fz_2_2, fz_2_3, fz_2_4, fz_2_5, fz_2_6, fz_2_7, fz_2_8, fz_2_9, fz_2_10, fz_2_11, fz_2_12, fz_2_13, fz_2_14, fz_2_15⟩ := hfx_2
  obtain ⟨qm, rfl⟩ := hT.shape
  have hv : blk w vb = some (#[.int .i16 ver, p_0, .int .i32 (IntKind.i32.wrap (t.at 1).n), z_2_0, z_2_1, z_2_2, z_2_3, z_2_4, z_2_5, z_2_6, z_2_7, z_2_8, z_2_9, z_2_10, z_2_11, z_2_12, z_2_13, z_2_14, z_2_15, .map qm], 90, (0, 0)) := by rw [hvb, hcs]; rfl
  clear hvb hcs
  obtain ⟨X_0, hXX_0⟩ : ∃ X, X = if (t.at 0).null = true then [0] else uvarS ((t.at 0).s.length + 1) ++ (t.at 0).s := ⟨_, rfl⟩
  obtain ⟨X_1, hXX_1⟩ : ∃ X, X = fixedS (t.at 1).n 4 := ⟨_, rfl⟩
  obtain ⟨X_2, hXX_2⟩ : ∃ X, X = uuidS (t.at 2).s := ⟨_, rfl⟩
  obtain ⟨XU, hXU⟩ : ∃ X, X = uvarS t.u.length := ⟨_, rfl⟩
  obtain ⟨XT, hXT⟩ : ∃ X, X = t.u.flatMap oneTag := ⟨_, rfl⟩
  have hP : partS (d + 1) fs_RemoveRaftVoterRequest ver true t = (X_0 ++ (X_1 ++ (X_2 ++ []))) ++ (XU ++ XT) := by rw [hXU, hXT]; exact partS_yes rfl hfu (plainL_has (by decide) hh_0 ((fieldS_ptr_t g_0 rfl (by decide)).trans hXX_0.symm) (plainL_has (by decide) hh_1 ((fieldS_num 3 rfl (by decide)).trans hXX_1.symm) (plainL_has (by decide) hh_2 ((fieldS_uuid rfl).trans hXX_2.symm) rfl)))
  rw [hP] at hlen
  simp only [List.length_append, List.length_nil] at hlen
  have hdK : ∀ {r : Value} {w' : World} {add : List UInt8}, AppR 5 B w v s add r w' → ∀ b, b < w'.heap.size → OkS okM w.heap.size b → ¬ ownB r b := fun h b _ hk ho => (h.frame b ho).elim (hd b hk.2 hk.1) (fun h => by have := hk.2; omega)
  have ownK : ∀ {r : Value} {w' : World} {add : List UInt8} {b : Nat}, AppR 5 B w v s add r w' → b < w.heap.size → ¬ ownB v b → ¬ ownB r b := fun h hb hn ho => (h.frame _ ho).elim hn (fun h => by omega)
  have ha0 : AppR 5 B w v s [] v w := AppR.refl ho
  obtain ⟨w0, hw0⟩ : ∃ w0, w0 = w := ⟨_, rfl⟩
  have hB0 := hB
  have hv_0 := hv
  refine fn_of_W Tryz.func46 rfl Tryz.results46 Tryz.ntmps46 rfl ?_
  have hcu2 : cellsAt #[.int .i16 ver, p_0, .int .i32 (IntKind.i32.wrap (t.at 1).n), z_2_0, z_2_1, z_2_2, z_2_3, z_2_4, z_2_5, z_2_6, z_2_7, z_2_8, z_2_9, z_2_10, z_2_11, z_2_12, z_2_13, z_2_14, z_2_15, .map qm] 3 16 = some (.agg #[z_2_0, z_2_1, z_2_2, z_2_3, z_2_4, z_2_5, z_2_6, z_2_7, z_2_8, z_2_9, z_2_10, z_2_11, z_2_12, z_2_13, z_2_14, z_2_15]) := rfl
  repeat ((first | refine W.seqR rfl ?_ | refine W.seq ?_ | refine W.regR rfl ?_ | refine W.condK ?_ | refine W.block ?_ | refine W.skip ?_ | refine W.ret ?_ | refine W.exit ?_); try simp (maxSteps := 1000000) (disch := (first | omega | (simp only [World.size_alloc, size_wr, size_drew] <;> omega) | exact not_noB _)) only [go_sem, ↓reduceIte, n0, reduceCtorEq, n1, n2, n3, n4, n5, i0, i1, i2, i3, i4, i5, i6, i7, hv_0, fz_2_0, fz_2_1, fz_2_2, fz_2_3, fz_2_4, fz_2_5, fz_2_6, fz_2_7, fz_2_8, fz_2_9, fz_2_10, fz_2_11, fz_2_12, fz_2_13, fz_2_14, fz_2_15, hcu2])
  refine (AppendCompactNullableString_fn (ok := okM) _ _ _ ha0.own hB0 _ (t.at 0).null (t.at 0).s (hp_0.keep (ha0.upd.keeps hd)) (g_0.text (.inl rfl)) (by simp only [List.length_append, List.length_nil]; omega)).mono ?_
  rintro r1 w1 hc1
  rw [← hXX_0] at hc1
  have ha1 := ha0.trans hc1
  have hB1 : B ≤ w1.heap.size := Nat.le_trans hB ha1.upd.size
  have hv_1 := ha1.upd.blk_some hv hdv
  repeat ((first | refine W.seqR rfl ?_ | refine W.seq ?_ | refine W.regR rfl ?_ | refine W.condK ?_ | refine W.block ?_ | refine W.skip ?_ | refine W.ret ?_ | refine W.exit ?_); try simp (maxSteps := 1000000) (disch := (first | omega | (simp only [World.size_alloc, size_wr, size_drew] <;> omega) | exact not_noB _)) only [go_sem, ↓reduceIte, n0, reduceCtorEq, n1, n2, n3, n4, n5, i0, i1, i2, i3, i4, i5, i6, i7, hv_1, fz_2_0, fz_2_1, fz_2_2, fz_2_3, fz_2_4, fz_2_5, fz_2_6, fz_2_7, fz_2_8, fz_2_9, fz_2_10, fz_2_11, fz_2_12, fz_2_13, fz_2_14, fz_2_15, hcu2])
  refine (AppendInt32_fn _ _ _ ha1.own hB1 _ (by simp only [List.length_append, List.length_nil]; omega)).mono ?_
  rintro r2 w2 hc2
  rw [wrap32, ← hXX_1] at hc2
  have ha2 := ha1.trans hc2
  have hB2 : B ≤ w2.heap.size := Nat.le_trans hB ha2.upd.size
  have hv_2 := ha2.upd.blk_some hv hdv
  have hcz_2 : cellsAt #[z_2_0, z_2_1, z_2_2, z_2_3, z_2_4, z_2_5, z_2_6, z_2_7, z_2_8, z_2_9, z_2_10, z_2_11, z_2_12, z_2_13, z_2_14, z_2_15] 0 16 = some (.agg #[z_2_0, z_2_1, z_2_2, z_2_3, z_2_4, z_2_5, z_2_6, z_2_7, z_2_8, z_2_9, z_2_10, z_2_11, z_2_12, z_2_13, z_2_14, z_2_15]) := cellsAt_full rfl
  repeat ((first | refine W.seqR rfl ?_ | refine W.seq ?_ | refine W.regR rfl ?_ | refine W.condK ?_ | refine W.block ?_ | refine W.skip ?_ | refine W.ret ?_ | refine W.exit ?_); try simp (maxSteps := 1000000) (disch := (first | omega | (simp only [World.size_alloc, size_wr, size_drew] <;> omega) | exact not_noB _)) only [go_sem, ↓reduceIte, n0, reduceCtorEq, n1, n2, n3, n4, n5, i0, i1, i2, i3, i4, i5, i6, i7, hv_2, fz_2_0, fz_2_1, fz_2_2, fz_2_3, fz_2_4, fz_2_5, fz_2_6, fz_2_7, fz_2_8, fz_2_9, fz_2_10, fz_2_11, fz_2_12, fz_2_13, fz_2_14, fz_2_15, hcu2, hcz_2])
  generalize hwu3 : wr (w2.alloc (.cells #[.int .u8 0, .int .u8 0, .int .u8 0, .int .u8 0, .int .u8 0, .int .u8 0, .int .u8 0, .int .u8 0, .int .u8 0, .int .u8 0, .int .u8 0, .int .u8 0, .int .u8 0, .int .u8 0, .int .u8 0, .int .u8 0] 88)) w2.heap.size 0 [z_2_0, z_2_1, z_2_2, z_2_3, z_2_4, z_2_5, z_2_6, z_2_7, z_2_8, z_2_9, z_2_10, z_2_11, z_2_12, z_2_13, z_2_14, z_2_15] = w3
  have hEu3 : Ext w2 w3 := by rw [← hwu3]; exact (Upd.alloc (Upd.refl _ _) _).wr _ _ (.inl (Nat.le_refl _))
  clear hwu3
  have ha3 := ha2.then hEu3
  have hB3 : B ≤ w3.heap.size := Nat.le_trans hB ha3.upd.size
  have hv_3 := ha3.upd.blk_some hv hdv
  have hu3 := AppendUuid_fn r2 _ w3 ha3.own hB3 (uuidS (t.at 2).s) (uuidS_len _) (by simp only [List.length_append, List.length_nil]; omega)
  rw [hX_2, ← hXX_2] at hu3
  refine (hu3).mono ?_
  rintro r4 w4 hc4
  have ha4 := ha3.trans hc4
  have hB4 : B ≤ w4.heap.size := Nat.le_trans hB ha4.upd.size
  have hv_4 := ha4.upd.blk_some hv hdv
  repeat ((first | refine W.seqR rfl ?_ | refine W.seq ?_ | refine W.regR rfl ?_ | refine W.condK ?_ | refine W.block ?_ | refine W.skip ?_ | refine W.ret ?_ | refine W.exit ?_); try simp (maxSteps := 1000000) (disch := (first | omega | (simp only [World.size_alloc, size_wr, size_drew] <;> omega) | exact not_noB _)) only [go_sem, ↓reduceIte, n0, reduceCtorEq, n1, n2, n3, n4, n5, i0, i1, i2, i3, i4, i5, i6, i7, hv_4, fz_2_0, fz_2_1, fz_2_2, fz_2_3, fz_2_4, fz_2_5, fz_2_6, fz_2_7, fz_2_8, fz_2_9, fz_2_10, fz_2_11, fz_2_12, fz_2_13, fz_2_14, fz_2_15, hcu2])
  have hTk4 : TagsM (OkS okM w.heap.size) w4 (.map qm) t.u := (hT.weaken fun b h1 h2 => ⟨h2, h1⟩).keep (ha4.upd.keeps fun b hb hk => hd b hb hk.1)
  refine (TagsLen_fn (ok := OkS okM w.heap.size) w4 hv_4 (to := 19) (show (#[.int .i16 ver, p_0, .int .i32 (IntKind.i32.wrap (t.at 1).n), z_2_0, z_2_1, z_2_2, z_2_3, z_2_4, z_2_5, z_2_6, z_2_7, z_2_8, z_2_9, z_2_10, z_2_11, z_2_12, z_2_13, z_2_14, z_2_15, .map qm] : Array Value)[19]? = some (.map qm) from rfl) hTk4).mono ?_
  rintro _ w4' ⟨rfl, rfl⟩
  have hul4 : t.u.length ≤ 32767 := hfu.1
  have ew4 : IntKind.u32.wrap (t.u.length : Int) = t.u.length := u32_wrap (by omega)
  have ez4 : IntKind.u32.wrap (0 + (t.u.length : Int)) = t.u.length := by rw [Int.zero_add, u32_wrap (by omega)]
  simp (maxSteps := 1000000) (disch := (first | omega | (simp only [World.size_alloc, size_wr, size_drew] <;> omega) | exact not_noB _)) only [go_sem, ↓reduceIte, n0, reduceCtorEq, n1, n2, n3, n4, n5, i0, i1, i2, i3, i4, i5, i6, i7, hv_4, fz_2_0, fz_2_1, fz_2_2, fz_2_3, fz_2_4, fz_2_5, fz_2_6, fz_2_7, fz_2_8, fz_2_9, fz_2_10, fz_2_11, fz_2_12, fz_2_13, fz_2_14, fz_2_15, hcu2, ew4, ez4]
  refine (AppendUvarint_fn _ _ _ ha4.own hB4 t.u.length (by omega) (by simp only [List.length_append, List.length_nil]; omega)).mono ?_
  rintro r5 w5 hc5
  rw [← hXU] at hc5
  have ha5 := ha4.trans hc5
  have hB5 : B ≤ w5.heap.size := Nat.le_trans hB ha5.upd.size
  have hv_5 := ha5.upd.blk_some hv hdv
  repeat ((first | refine W.seqR rfl ?_ | refine W.seq ?_ | refine W.regR rfl ?_ | refine W.condK ?_ | refine W.block ?_ | refine W.skip ?_ | refine W.ret ?_ | refine W.exit ?_); try simp (maxSteps := 1000000) (disch := (first | omega | (simp only [World.size_alloc, size_wr, size_drew] <;> omega) | exact not_noB _)) only [go_sem, ↓reduceIte, n0, reduceCtorEq, n1, n2, n3, n4, n5, i0, i1, i2, i3, i4, i5, i6, i7, hv_5, fz_2_0, fz_2_1, fz_2_2, fz_2_3, fz_2_4, fz_2_5, fz_2_6, fz_2_7, fz_2_8, fz_2_9, fz_2_10, fz_2_11, fz_2_12, fz_2_13, fz_2_14, fz_2_15, hcu2])
  have hTk5 : TagsM (OkS okM w.heap.size) w5 (.map qm) t.u := (hT.weaken fun b h1 h2 => ⟨h2, h1⟩).keep (ha5.upd.keeps fun b hb hk => hd b hb hk.1)
  refine (AppendEach_fn (ok := OkS okM w.heap.size) _ _ _ ha5.own hB5 hv_5 (to := 19) (show (#[.int .i16 ver, p_0, .int .i32 (IntKind.i32.wrap (t.at 1).n), z_2_0, z_2_1, z_2_2, z_2_3, z_2_4, z_2_5, z_2_6, z_2_7, z_2_8, z_2_9, z_2_10, z_2_11, z_2_12, z_2_13, z_2_14, z_2_15, .map qm] : Array Value)[19]? = some (.map qm) from rfl) hTk5 (rising_keys hfu) hfu.1 (tags_small hfu hTk5) (hdK ha5) (ownK ha5 (blk_lt hv) hdv) (by simp only [List.length_append, List.length_nil]; omega)).mono ?_
  rintro r6 w6 hc6
  rw [← hXT] at hc6
  have ha6 := ha5.trans hc6
  have hB6 : B ≤ w6.heap.size := Nat.le_trans hB ha6.upd.size
  have hv_6 := ha6.upd.blk_some hv hdv
  repeat ((first | refine W.seqR rfl ?_ | refine W.seq ?_ | refine W.regR rfl ?_ | refine W.condK ?_ | refine W.block ?_ | refine W.skip ?_ | refine W.ret ?_ | refine W.exit ?_); try simp (maxSteps := 1000000) (disch := (first | omega | (simp only [World.size_alloc, size_wr, size_drew] <;> omega) | exact not_noB _)) only [go_sem, ↓reduceIte, n0, reduceCtorEq, n1, n2, n3, n4, n5, i0, i1, i2, i3, i4, i5, i6, i7, hv_6, fz_2_0, fz_2_1, fz_2_2, fz_2_3, fz_2_4, fz_2_5, fz_2_6, fz_2_7, fz_2_8, fz_2_9, fz_2_10, fz_2_11, fz_2_12, fz_2_13, fz_2_14, fz_2_15, hcu2])
  refine ha6.eqs ?_
  rw [hP]; simp only [List.append_assoc, List.append_nil, List.nil_append]
end Ms

namespace Ms
open Nat renaming reduceEqDiff → n0, reduceAdd → n1, reduceMul → n2, reduceSub → n3, reduceLT → n4, reduceLeDiff → n5
open Int renaming reduceEq → i0, reduceLT → i1, reduceLE → i2, reduceNeg → i3, reduceAdd → i4, reduceSub → i5, reduceMul → i6, reduceToNat → i7
set_option maxRecDepth 8000
open Go Go.Proofs Go.Shelf
attribute [local congr] W_congr WPsq_congr WPp_congr optK_congr addrK_congr intK_congr boolK_congr sliceK_congr tupleK_congr funcK_congr Fn_congr rawK_congr takeK_congr stepK_congr convK_congr aggK_congr

set_option maxHeartbeats 2000000 in
theorem BehindRemoveRaftVoterRequest_fn {d : Nat} {ok : Blocks} {ev : Value} (ver : Nat) (hv : ver ≤ 0) (t : Tree) (dst b : Value) (D : List UInt8) (w : World) (hd : BytesV ok w dst D) (hb : BytesV ok w b (partS (d + 1) fs_RemoveRaftVoterRequest ver (flexB 0 ver) t)) (hG : Glo ev w) (hrd : rdP (d + 1) ver (flexB 0 ver) fs_RemoveRaftVoterRequest (some (partS (d + 1) fs_RemoveRaftVoterRequest ver (flexB 0 ver) t)) = (cnP (d + 1) ver (flexB 0 ver) fs_RemoveRaftVoterRequest t, some []))
    (hcn : partS (d + 1) fs_RemoveRaftVoterRequest ver (flexB 0 ver) (cnP (d + 1) ver (flexB 0 ver) fs_RemoveRaftVoterRequest t) = (partS (d + 1) fs_RemoveRaftVoterRequest ver (flexB 0 ver) t) ∧ FitW ver (d + 1) fs_RemoveRaftVoterRequest (cnP (d + 1) ver (flexB 0 ver) fs_RemoveRaftVoterRequest t)) (hD : D.length ≤ 1000) (hl : (partS (d + 1) fs_RemoveRaftVoterRequest ver (flexB 0 ver) t).length ≤ 2 ^ 40) :
    Fn Tryz.prog 19 #[.int .i64 ver, dst, b] w fun r w' => (∃ v, r = .tuple #[v, .bool true] ∧ OwnBy 5 w.heap.size w' v (D ++ (partS (d + 1) fs_RemoveRaftVoterRequest ver (flexB 0 ver) t))) ∧ Ext w w' := by
  obtain ⟨da, dc, rfl, _⟩ := hd.shape
  obtain ⟨ba, bc, rfl, _⟩ := hb.shape
  have hgl := hG.lt
  have ew : IntKind.i16.wrap (ver : Int) = ver := i16_wrap (by omega)
  refine fn_of_W Tryz.func19 rfl Tryz.results19 Tryz.ntmps19 rfl ?_
  repeat ((first | refine W.seqR rfl ?_ | refine W.seq ?_ | refine W.regR rfl ?_ | refine W.condK ?_ | refine W.block ?_ | refine W.skip ?_ | refine W.ret ?_ | refine W.exit ?_); try simp (maxSteps := 1000000) (disch := (first | omega | (simp only [World.size_alloc, size_wr, size_drew] <;> omega) | exact not_noB _)) only [go_sem, ↓reduceIte, n0, reduceCtorEq, n1, n2, n3, n4, n5, i0, i1, i2, i3, i4, i5, i6, i7, ew])
  refine (NewPtrRemoveRaftVoterRequest_fn w).mono ?_
  rintro _ w1 ⟨rfl, hb1, hE1⟩
  have hz1 := blk_lt hb1
  repeat ((first | refine W.seqR rfl ?_ | refine W.seq ?_ | refine W.regR rfl ?_ | refine W.condK ?_ | refine W.block ?_ | refine W.skip ?_ | refine W.ret ?_ | refine W.exit ?_); try simp (maxSteps := 1000000) (disch := (first | omega | (simp only [World.size_alloc, size_wr, size_drew] <;> omega) | exact not_noB _)) only [go_sem, ↓reduceIte, n0, reduceCtorEq, n1, n2, n3, n4, n5, i0, i1, i2, i3, i4, i5, i6, i7, ew])
  refine (SetVersionRemoveRaftVoterRequest_fn w1 (vb := w.heap.size) ver hb1).mono ?_
  rintro _ w2 ⟨hb2, hU2⟩
  have hz2 := hU2.size
  have hE2 : Ext w w2 := hE1.more hU2 fun b hb h => by omega
  repeat ((first | refine W.seqR rfl ?_ | refine W.seq ?_ | refine W.regR rfl ?_ | refine W.condK ?_ | refine W.block ?_ | refine W.skip ?_ | refine W.ret ?_ | refine W.exit ?_); try simp (maxSteps := 1000000) (disch := (first | omega | (simp only [World.size_alloc, size_wr, size_drew] <;> omega) | exact not_noB _)) only [go_sem, ↓reduceIte, n0, reduceCtorEq, n1, n2, n3, n4, n5, i0, i1, i2, i3, i4, i5, i6, i7, ew])
  refine wp_copyN ap_22_22 (ok := ok) (s := (partS (d + 1) fs_RemoveRaftVoterRequest ver (flexB 0 ver) t)) (v := .slice ba _ bc) (by first | rfl | simp (maxSteps := 1000000) (disch := (first | omega | (simp only [World.size_alloc, size_wr, size_drew] <;> omega) | exact not_noB _)) only [go_sem, ↓reduceIte, n0, reduceCtorEq, n1, n2, n3, n4, n5, i0, i1, i2, i3, i4, i5, i6, i7]) (by first | rfl | simp (maxSteps := 1000000) (disch := (first | omega | (simp only [World.size_alloc, size_wr, size_drew] <;> omega) | exact not_noB _)) only [go_sem, ↓reduceIte, n0, reduceCtorEq, n1, n2, n3, n4, n5, i0, i1, i2, i3, i4, i5, i6, i7]) (hb.keep (hE2.keeps _)) (by omega) ?_
  intro v3 w3 ho3 hE3 hf3
  have hz3 := hE3.size
  have hb3 := hE3.blk_some hb2 id
  have hG3 : Glo ev w3 := hG.updS (hE2.trans hE3) id id
  obtain ⟨a3, c3, rfl, _⟩ := ho3.shape
  simp (maxSteps := 1000000) (disch := (first | omega | (simp only [World.size_alloc, size_wr, size_drew] <;> omega) | exact not_noB _)) only [go_sem, ↓reduceIte, n0, reduceCtorEq, n1, n2, n3, n4, n5, i0, i1, i2, i3, i4, i5, i6, i7]
  refine (ReadFromRemoveRaftVoterRequest_fn (d := d) (ok := fun b => b < w3.heap.size ∧ b ≠ w.heap.size) (ev := ev) (ver := ver) (by omega) (by omega) w3 _ _ hb3 ((Own.bytes ho3 hf3).weaken fun b hb hk => ⟨hb, by omega⟩) (fun b hb => hb) hG3 ⟨by omega, by omega⟩).mono ?_
  rintro r4 w4 ⟨_, h4, hU4⟩
  rw [hrd] at h4
  obtain ⟨rfl, cells, hb4, hR4⟩ := h4 (by simp)
  have hz4 := hU4.size
  have hE4 : Ext w w4 := (hE2.trans hE3).more hU4 fun b hb h => by omega
  have hR4' : RepS true (d + 1) fs_RemoveRaftVoterRequest (fun b => b < w4.heap.size) w4 (cnP (d + 1) ver (flexB 0 ver) fs_RemoveRaftVoterRequest t) cells := (RepS_lay true (d + 1) fs_RemoveRaftVoterRequest).weaken hR4 fun b hb _ => hb
  try simp (maxSteps := 1000000) (disch := (first | omega | (simp only [World.size_alloc, size_wr, size_drew] <;> omega) | exact not_noB _)) only [go_sem, ↓reduceIte, n0, reduceCtorEq, n1, n2, n3, n4, n5, i0, i1, i2, i3, i4, i5, i6, i7]
  repeat ((first | refine W.seqR rfl ?_ | refine W.seq ?_ | refine W.regR rfl ?_ | refine W.condK ?_ | refine W.block ?_ | refine W.skip ?_ | refine W.ret ?_ | refine W.exit ?_); try simp (maxSteps := 1000000) (disch := (first | omega | (simp only [World.size_alloc, size_wr, size_drew] <;> omega) | exact not_noB _)) only [go_sem, ↓reduceIte, n0, reduceCtorEq, n1, n2, n3, n4, n5, i0, i1, i2, i3, i4, i5, i6, i7])
  refine wp_copyN ap_22_22 (ok := ok) (s := D) (v := .slice da _ dc) (by first | rfl | simp (maxSteps := 1000000) (disch := (first | omega | (simp only [World.size_alloc, size_wr, size_drew] <;> omega) | exact not_noB _)) only [go_sem, ↓reduceIte, n0, reduceCtorEq, n1, n2, n3, n4, n5, i0, i1, i2, i3, i4, i5, i6, i7]) (by first | rfl | simp (maxSteps := 1000000) (disch := (first | omega | (simp only [World.size_alloc, size_wr, size_drew] <;> omega) | exact not_noB _)) only [go_sem, ↓reduceIte, n0, reduceCtorEq, n1, n2, n3, n4, n5, i0, i1, i2, i3, i4, i5, i6, i7]) (hd.keep (hE4.keeps _)) (by omega) ?_
  intro v5 w5 ho5 hE5 hf5
  have hz5 := hE5.size
  have hb5 := hE5.blk_some hb4 id
  have hR5 := (RepS_lay true (d + 1) fs_RemoveRaftVoterRequest).keep hR4' (hE5.keeps _)
  obtain ⟨a5, c5, rfl, _⟩ := ho5.shape
  simp (maxSteps := 1000000) (disch := (first | omega | (simp only [World.size_alloc, size_wr, size_drew] <;> omega) | exact not_noB _)) only [go_sem, ↓reduceIte, n0, reduceCtorEq, n1, n2, n3, n4, n5, i0, i1, i2, i3, i4, i5, i6, i7]
  have hcl : (0 ≤ (ver : Int) ∧ (ver : Int) ≤ 0) := by omega
  rcases hcl with ⟨h1, h2⟩
  · have hfl : flexB 0 ver = true := by simp only [flexB, Bool.and_eq_true, decide_eq_true_eq]; omega
    rw [hfl] at hcn hR5 hl ⊢
    refine (appRemoveRaftVoterRequest_0 (d := d) (B := w.heap.size) h1 h2 _ cells _ D w5 (Own.mono ho5 (by omega)) (by omega) hb5 hR5 hcn.2 (fun b _ h1 h2 => by have := hf5 b h2; omega) (fun h => by have := hf5 _ h; omega) (by rw [hcn.1]; omega)).mono ?_
    rintro r6 w6 h6
    repeat ((first | refine W.seqR rfl ?_ | refine W.seq ?_ | refine W.regR rfl ?_ | refine W.condK ?_ | refine W.block ?_ | refine W.skip ?_ | refine W.ret ?_ | refine W.exit ?_); try simp (maxSteps := 1000000) (disch := (first | omega | (simp only [World.size_alloc, size_wr, size_drew] <;> omega) | exact not_noB _)) only [go_sem, ↓reduceIte, n0, reduceCtorEq, n1, n2, n3, n4, n5, i0, i1, i2, i3, i4, i5, i6, i7])
    refine ⟨by have := h6.own; rw [hcn.1] at this; exact ⟨_, rfl, this⟩, (hE4.trans hE5).more h6.upd fun b hb h => by have := hf5 b h; omega⟩

end Ms

namespace Ms
open Nat renaming reduceEqDiff → n0, reduceAdd → n1, reduceMul → n2, reduceSub → n3, reduceLT → n4, reduceLeDiff → n5
open Int renaming reduceEq → i0, reduceLT → i1, reduceLE → i2, reduceNeg → i3, reduceAdd → i4, reduceSub → i5, reduceMul → i6, reduceToNat → i7
set_option maxRecDepth 8000
open Go Go.Proofs Go.Shelf
attribute [local congr] W_congr WPsq_congr WPp_congr optK_congr addrK_congr intK_congr boolK_congr sliceK_congr tupleK_congr funcK_congr Fn_congr rawK_congr takeK_congr stepK_congr convK_congr aggK_congr

set_option maxHeartbeats 2000000 in
theorem law_BehindRemoveRaftVoterRequest {ok : Blocks} {ev : Value} (n : Nat) (hn : n < 256) (dst : Value) (Dd : List UInt8) (t : Tree) (ct : List Value) (w : World) (hd : BytesV ok w dst Dd) (ht : TreeC ok w t ct) (hsm : Small 4611686018427387903 t) (hG : Glo ev w) (hDl : Dd.length ≤ 1048576) {N : Nat} (hN : N ≤ 1048576) (hsz : Sized N t) :
    Fn Tryz.prog 4 #[.int .u8 n, dst, .agg ct.toArray] w fun r w' => r = .bool true ∧ Ext w w' := by
  obtain ⟨vS, vL, vU, rfl, hn', hS, hL, hU⟩ := ht.inv
  obtain ⟨da, dc, rfl, _⟩ := hd.shape
  have f1 := hS.flat
  have f2 := SlR.flat hL
  have f3 := SlR.flat hU
  have hD1 : ¬ (2147483647 : Int) < (Dd.length : Int) := by omega
  have hE : Ext w (w.alloc (.cells #[.int .i64 t.n, vS, .bool t.null, vL, vU] 26)) := Upd.alloc (Upd.refl _ _) _
  refine fn_of_W Tryz.func4 rfl Tryz.results4 Tryz.ntmps4 rfl ?_
  repeat ((first | refine W.seqR rfl ?_ | refine W.seq ?_ | refine W.regR rfl ?_ | refine W.condK ?_ | refine W.block ?_ | refine W.skip ?_ | refine W.ret ?_ | refine W.exit ?_); try simp (maxSteps := 1000000) (disch := (first | omega | (simp only [World.size_alloc, size_wr, size_drew] <;> omega) | exact not_noB _)) only [go_sem, ↓reduceIte, n0, reduceCtorEq, n1, n2, n3, n4, n5, i0, i1, i2, i3, i4, i5, i6, i7, f1, f2, f3, cellsAt_five, hD1])
  have hb : blk (w.alloc (.cells #[.int .i64 t.n, vS, .bool t.null, vL, vU] 26)) w.heap.size = some (#[.int .i64 t.n, vS, .bool t.null, vL, vU], 26, (0, 0)) := blk_alloc_new rfl
  generalize (w.alloc (.cells #[.int .i64 t.n, vS, .bool t.null, vL, vU] 26)) = w1 at *
  refine (zzFits1_fn (ok := ok) t _ w1 (ht.keep (hE.keeps _)) hsm).mono ?_
  rintro r2 w2 ⟨⟨bb, rfl⟩, hE2⟩
  cases bb with
  | false =>
    simp (maxSteps := 1000000) (disch := (first | omega | (simp only [World.size_alloc, size_wr, size_drew] <;> omega) | exact not_noB _)) only [go_sem, ↓reduceIte, n0, reduceCtorEq, n1, n2, n3, n4, n5, i0, i1, i2, i3, i4, i5, i6, i7]
    repeat ((first | refine W.seqR rfl ?_ | refine W.seq ?_ | refine W.regR rfl ?_ | refine W.condK ?_ | refine W.block ?_ | refine W.skip ?_ | refine W.ret ?_ | refine W.exit ?_); try simp (maxSteps := 1000000) (disch := (first | omega | (simp only [World.size_alloc, size_wr, size_drew] <;> omega) | exact not_noB _)) only [go_sem, ↓reduceIte, n0, reduceCtorEq, n1, n2, n3, n4, n5, i0, i1, i2, i3, i4, i5, i6, i7])
    all_goals exact hE.trans hE2
  | true =>
    simp (maxSteps := 1000000) (disch := (first | omega | (simp only [World.size_alloc, size_wr, size_drew] <;> omega) | exact not_noB _)) only [go_sem, ↓reduceIte, n0, reduceCtorEq, n1, n2, n3, n4, n5, i0, i1, i2, i3, i4, i5, i6, i7]
    repeat ((first | refine W.seqR rfl ?_ | refine W.seq ?_ | refine W.regR rfl ?_ | refine W.condK ?_ | refine W.block ?_ | refine W.skip ?_ | refine W.ret ?_ | refine W.exit ?_); try simp (maxSteps := 1000000) (disch := (first | omega | (simp only [World.size_alloc, size_wr, size_drew] <;> omega) | exact not_noB _)) only [go_sem, ↓reduceIte, n0, reduceCtorEq, n1, n2, n3, n4, n5, i0, i1, i2, i3, i4, i5, i6, i7])
    refine (MaxRemoveRaftVoterRequest_fn w2).mono ?_
    rintro _ w2m ⟨rfl, hE2m⟩
    repeat ((first | refine W.seqR rfl ?_ | refine W.seq ?_ | refine W.regR rfl ?_ | refine W.condK ?_ | refine W.block ?_ | refine W.skip ?_ | refine W.ret ?_ | refine W.exit ?_); try simp (maxSteps := 1000000) (disch := (first | omega | (simp only [World.size_alloc, size_wr, size_drew] <;> omega) | exact not_noB _)) only [go_sem, ↓reduceIte, n0, reduceCtorEq, n1, n2, n3, n4, n5, i0, i1, i2, i3, i4, i5, i6, i7])
    refine (cRemoveRaftVoterRequest_fn w2m).mono ?_
    rintro r3 w3 ⟨⟨vs, rfl, hF0⟩, hE3⟩
    have hF : FldsV AnyB w3 vs fs_RemoveRaftVoterRequest := hF0.weaken fun _ _ _ => trivial
    have fF := SlR.flat hF
    simp (maxSteps := 1000000) (disch := (first | omega | (simp only [World.size_alloc, size_wr, size_drew] <;> omega) | exact not_noB _)) only [go_sem, ↓reduceIte, n0, reduceCtorEq, n1, n2, n3, n4, n5, i0, i1, i2, i3, i4, i5, i6, i7]
    refine (version_fn w3 n 0 hn (by decide)).mono ?_
    rintro _ w3v ⟨rfl, rfl⟩
    have hE03 : Ext w w3v := ((hE.trans hE2).trans hE2m).trans hE3
    have hb3 := hE3.blk_some (hE2m.blk_some (hE2.blk_some hb id) id) id
    have hE4 : Ext w3v (wr (w3v.alloc (.cells #[.slice none 0 0, .int .i64 0] 31)) w3v.heap.size 0 [vs, .int .i64 0]) := (Upd.alloc (Upd.refl _ _) _).wr _ _ (.inl (Nat.le_refl _))
    have hb4 : blk (wr (w3v.alloc (.cells #[.slice none 0 0, .int .i64 0] 31)) w3v.heap.size 0 [vs, .int .i64 0]) w3v.heap.size = some (#[vs, .int .i64 0], 31, (0, 0)) := by simp (maxSteps := 1000000) (disch := (first | omega | (simp only [World.size_alloc, size_wr, size_drew] <;> omega) | exact not_noB _)) only [go_sem, ↓reduceIte, n0, reduceCtorEq, n1, n2, n3, n4, n5, i0, i1, i2, i3, i4, i5, i6, i7]
    simp (maxSteps := 1000000) (disch := (first | omega | (simp only [World.size_alloc, size_wr, size_drew] <;> omega) | exact not_noB _)) only [go_sem, ↓reduceIte, n0, reduceCtorEq, n1, n2, n3, n4, n5, i0, i1, i2, i3, i4, i5, i6, i7, fF]
    generalize (wr (w3v.alloc (.cells #[.slice none 0 0, .int .i64 0] 31)) w3v.heap.size 0 [vs, .int .i64 0]) = w4 at *
    have hb34 := hE4.blk_some hb3 id
    have hv3 : n % 1 < 1 := Nat.mod_lt _ (by omega)
    generalize n % 1 = ver at *
    have hs1 := blk_lt hb4
    have hs2 := blk_lt hb34
    by_cases hD2 : (1000 : Int) < (Dd.length : Int)
    · repeat ((first | refine W.seqR rfl ?_ | refine W.seq ?_ | refine W.regR rfl ?_ | refine W.condK ?_ | refine W.block ?_ | refine W.skip ?_ | refine W.ret ?_ | refine W.exit ?_); try simp (maxSteps := 1000000) (disch := (first | omega | (simp only [World.size_alloc, size_wr, size_drew] <;> omega) | exact not_noB _)) only [go_sem, ↓reduceIte, n0, reduceCtorEq, n1, n2, n3, n4, n5, i0, i1, i2, i3, i4, i5, i6, i7, hD2])
      all_goals exact hE03.trans hE4
    repeat ((first | refine W.seqR rfl ?_ | refine W.seq ?_ | refine W.regR rfl ?_ | refine W.condK ?_ | refine W.block ?_ | refine W.skip ?_ | refine W.ret ?_ | refine W.exit ?_); try simp (maxSteps := 1000000) (disch := (first | omega | (simp only [World.size_alloc, size_wr, size_drew] <;> omega) | exact not_noB _)) only [go_sem, ↓reduceIte, n0, reduceCtorEq, n1, n2, n3, n4, n5, i0, i1, i2, i3, i4, i5, i6, i7, hD2, hb34, hb4, cellsAt_five, cellsAt_two])
    have hE04 : Ext w w4 := hE03.trans hE4
    have hokF : okF 1 fs_RemoveRaftVoterRequest = true := by decide
    have hokM : okM 1 fs_RemoveRaftVoterRequest = true := by decide
    have hokR : okR 1 ver (flexB 0 ver) fs_RemoveRaftVoterRequest = true := (by decide : ∀ v : Fin 1, okR 1 ((v.val : Nat) : Int) (flexB 0 ((v.val : Nat) : Int)) fs_RemoveRaftVoterRequest = true) ⟨ver, hv3⟩
    have hpl : (partS 2 fs_RemoveRaftVoterRequest ver (flexB 0 ver) t).length ≤ 2 ^ 40 := Nat.le_trans (partS_bound ver _ 1 fs_RemoveRaftVoterRequest N t hokM hsz) (Nat.le_trans (Nat.mul_le_mul_left _ (Nat.succ_le_succ hN)) (by decide))
    refine (Write_fn (ok := AnyB) (d := 1) fs_RemoveRaftVoterRequest 0 ver t vs _ w4 (hF.keep (Ext.keeps hE4 _)) hokF ((ht.weaken fun _ _ _ => trivial).keep (Ext.keeps hE04 _)) hsm hpl).mono ?_
    rintro r5 w5 ⟨ho5, hE5⟩
    have hE05 := hE04.trans hE5
    obtain ⟨a5, c5, rfl, _⟩ := ho5.shape
    repeat ((first | refine W.seqR rfl ?_ | refine W.seq ?_ | refine W.regR rfl ?_ | refine W.condK ?_ | refine W.block ?_ | refine W.skip ?_ | refine W.ret ?_ | refine W.exit ?_); try simp (maxSteps := 1000000) (disch := (first | omega | (simp only [World.size_alloc, size_wr, size_drew] <;> omega) | exact not_noB _)) only [go_sem, ↓reduceIte, n0, reduceCtorEq, n1, n2, n3, n4, n5, i0, i1, i2, i3, i4, i5, i6, i7])
    have hrd := (rdP_part ver (flexB 0 ver) 1 fs_RemoveRaftVoterRequest N t hokR hsz).1 []
    rw [List.append_nil] at hrd
    refine (BehindRemoveRaftVoterRequest_fn (d := 1) (ok := AnyB) (ev := ev) ver (by omega) t _ _ Dd w5 ((hd.weaken (ok' := AnyB) fun _ _ _ => trivial).keep (Ext.keeps hE05 _)) (Own.bytes (ok := AnyB) ho5 fun _ _ => trivial) (hG.updS hE05 id id) hrd (partS_cn ver (flexB 0 ver) 1 fs_RemoveRaftVoterRequest t hokR) (by omega) hpl).mono ?_
    rintro _ w6 ⟨⟨v6, rfl, ho6⟩, hE6⟩
    have hE06 := hE05.trans hE6
    obtain ⟨a6, c6, rfl, _⟩ := ho6.shape
    try simp (maxSteps := 1000000) (disch := (first | omega | (simp only [World.size_alloc, size_wr, size_drew] <;> omega) | exact not_noB _)) only [go_sem, ↓reduceIte, n0, reduceCtorEq, n1, n2, n3, n4, n5, i0, i1, i2, i3, i4, i5, i6, i7]
    repeat ((first | refine W.seqR rfl ?_ | refine W.seq ?_ | refine W.regR rfl ?_ | refine W.condK ?_ | refine W.block ?_ | refine W.skip ?_ | refine W.ret ?_ | refine W.exit ?_); try simp (maxSteps := 1000000) (disch := (first | omega | (simp only [World.size_alloc, size_wr, size_drew] <;> omega) | exact not_noB _)) only [go_sem, ↓reduceIte, n0, reduceCtorEq, n1, n2, n3, n4, n5, i0, i1, i2, i3, i4, i5, i6, i7])
    have hE7 : Ext w6 (w6.alloc (.cells #[] 5)) := Upd.alloc (Upd.refl _ _) _
    have ho7 : Own w6.heap.size (w6.alloc (.cells #[] 5)) 5 1 (.slice (some ⟨w6.heap.size, 0, none⟩) 0 0) 0 [] := ⟨by simp, .inr ⟨_, 0, [], (0, 0), rfl, Nat.le_refl _, blk_alloc_new rfl, rfl, thaw_00 _ _, Nat.le_refl _⟩⟩
    have ha6 : blk (w6.alloc (.cells #[] 5)) w6.heap.size = some (#[], 5, (0, 0)) := blk_alloc_new rfl
    generalize w6.alloc (.cells #[] 5) = w7 at *
    have hz6 := hE6.size
    have hz7 := hE7.size
    have hz05 := hE05.size
    have hd7 : BytesV AnyB w7 _ Dd := BytesV.keep (hd.weaken (ok' := AnyB) fun _ _ _ => trivial) (Ext.keeps (hE06.trans hE7) _)
    have hb7 : BytesV (fun b => b < w6.heap.size) w7 _ (partS 2 fs_RemoveRaftVoterRequest ver (flexB 0 ver) t) := BytesV.keep ((Own.bytes (ok := AnyB) ho5 fun _ _ => trivial).weaken fun b hb _ => by omega) (Ext.keeps (hE6.trans hE7) _)
    have hr7 : BytesV (fun b => b < w6.heap.size) w7 _ (Dd ++ (partS 2 fs_RemoveRaftVoterRequest ver (flexB 0 ver) t)) := BytesV.keep ((Own.bytes (ok := AnyB) ho6 fun _ _ => trivial).weaken fun b hb _ => hb) (Ext.keeps hE7 _)
    refine wp_append ap_22_22 (B := w6.heap.size) (n := 0) (cs := []) (m := Dd.length) (news := Dd.map byteV) (v := .slice (some ⟨w6.heap.size, 0, none⟩) 0 0) (u := .slice da Dd.length dc) (by first | rfl | simp (maxSteps := 1000000) (disch := (first | omega | (simp only [World.size_alloc, size_wr, size_drew] <;> omega) | exact not_noB _)) only [go_sem, ↓reduceIte, n0, reduceCtorEq, n1, n2, n3, n4, n5, i0, i1, i2, i3, i4, i5, i6, i7]) (by first | rfl | simp (maxSteps := 1000000) (disch := (first | omega | (simp only [World.size_alloc, size_wr, size_drew] <;> omega) | exact not_noB _)) only [go_sem, ↓reduceIte, n0, reduceCtorEq, n1, n2, n3, n4, n5, i0, i1, i2, i3, i4, i5, i6, i7]) ho7 rfl hd7.src (by omega) (by omega) ?_
    intro v8 w8 h8 hU8 hf8
    rw [Nat.zero_add, List.nil_append] at h8
    have hz8 := hU8.size
    have hn7 : ∀ b, ownB (.slice (some ⟨w6.heap.size, 0, none⟩) 0 0) b → b = w6.heap.size := fun b h => ownB_row h
    have hE8 : Ext w w8 := (hE06.trans hE7).more hU8 fun b hb h => by have := hn7 b h; have := hE06.size; omega
    have hb8 := hb7.keep (hU8.keeps fun b _ hk h => by have := hn7 b h; omega)
    have hr8 := hr7.keep (hU8.keeps fun b _ hk h => by have := hn7 b h; omega)
    obtain ⟨a8, c8, rfl, _⟩ := h8.shape
    simp (maxSteps := 1000000) (disch := (first | omega | (simp only [World.size_alloc, size_wr, size_drew] <;> omega) | exact not_noB _)) only [go_sem, ↓reduceIte, n0, reduceCtorEq, n1, n2, n3, n4, n5, i0, i1, i2, i3, i4, i5, i6, i7]
    refine wp_append ap_22_22 (B := w6.heap.size) (n := Dd.length) (cs := Dd.map byteV) (m := (partS 2 fs_RemoveRaftVoterRequest ver (flexB 0 ver) t).length) (news := (partS 2 fs_RemoveRaftVoterRequest ver (flexB 0 ver) t).map byteV) (v := .slice a8 Dd.length c8) (u := .slice a5 _ c5) (by first | rfl | simp (maxSteps := 1000000) (disch := (first | omega | (simp only [World.size_alloc, size_wr, size_drew] <;> omega) | exact not_noB _)) only [go_sem, ↓reduceIte, n0, reduceCtorEq, n1, n2, n3, n4, n5, i0, i1, i2, i3, i4, i5, i6, i7]) (by first | rfl | simp (maxSteps := 1000000) (disch := (first | omega | (simp only [World.size_alloc, size_wr, size_drew] <;> omega) | exact not_noB _)) only [go_sem, ↓reduceIte, n0, reduceCtorEq, n1, n2, n3, n4, n5, i0, i1, i2, i3, i4, i5, i6, i7]) h8 (flat_bytes _) hb8.src (by omega) (by omega) ?_
    intro v9 w9 h9 hU9 hf9
    rw [← List.map_append, ← List.length_append] at h9
    have hn8 : ∀ b, ownB (.slice a8 Dd.length c8) b → w6.heap.size ≤ b := fun b h => by
      rcases hf8 b h with h | h
      · have := hn7 b h; omega
      · omega
    have hE9 : Ext w w9 := hE8.more hU9 fun b hb h => by have := hn8 b h; have := hE06.size; omega
    have hr9 := hr8.keep (hU9.keeps fun b _ hk h => by have := hn8 b h; omega)
    obtain ⟨a9, c9, rfl, _⟩ := h9.shape
    simp (maxSteps := 1000000) (disch := (first | omega | (simp only [World.size_alloc, size_wr, size_drew] <;> omega) | exact not_noB _)) only [go_sem, ↓reduceIte, n0, reduceCtorEq, n1, n2, n3, n4, n5, i0, i1, i2, i3, i4, i5, i6, i7]
    refine (Same_fn (ok := AnyB) (Dd ++ (partS 2 fs_RemoveRaftVoterRequest ver (flexB 0 ver) t)) (Dd ++ (partS 2 fs_RemoveRaftVoterRequest ver (flexB 0 ver) t)) _ _ w9 (hr9.weaken fun _ _ _ => trivial) (Own.bytes h9 fun _ _ => trivial) (by rw [List.length_append]; omega)).mono ?_
    rintro _ w10 ⟨rfl, hE10⟩
    try simp (maxSteps := 1000000) (disch := (first | omega | (simp only [World.size_alloc, size_wr, size_drew] <;> omega) | exact not_noB _)) only [go_sem, ↓reduceIte, n0, reduceCtorEq, n1, n2, n3, n4, n5, i0, i1, i2, i3, i4, i5, i6, i7]
    repeat ((first | refine W.seqR rfl ?_ | refine W.seq ?_ | refine W.regR rfl ?_ | refine W.condK ?_ | refine W.block ?_ | refine W.skip ?_ | refine W.ret ?_ | refine W.exit ?_); try simp (maxSteps := 1000000) (disch := (first | omega | (simp only [World.size_alloc, size_wr, size_drew] <;> omega) | exact not_noB _)) only [go_sem, ↓reduceIte, n0, reduceCtorEq, n1, n2, n3, n4, n5, i0, i1, i2, i3, i4, i5, i6, i7])
    all_goals exact hE9.trans hE10

end Ms

