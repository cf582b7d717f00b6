/- A part of the proof: see the last text. -/
import Derived.Test.YtfeaoncgnhhjbacDoorC02
import Derived.Test.YtfeaoncgnhhjbacDoorC03
import Derived.Test.YtfeaoncgnhhjbacDoorC06
import Derived.Test.YtfeaoncgnhhjbacDoorC08
import Derived.Test.YtfeaoncgnhhjbacDoorC09
set_option linter.unusedSimpArgs false
set_option linter.unusedVariables false
namespace Ms
open Go.World renaming size_alloc → qI
open Ms renaming size_wr → qJ,size_drew → qK,not_noB → qL
open W renaming seqR → qA,seq → qB,regR → qC,condK → qD,block → qE,skip → qF,ret → qG,exit → qH
open Nat renaming reduceEqDiff → n0,reduceAdd → n1,reduceMul → n2,reduceSub → n3,reduceLT → n4,reduceLeDiff → n5
open Int renaming reduceEq → i0,reduceLT → i1,reduceLE → i2,reduceNeg → i3,reduceAdd → i4,reduceSub → i5,reduceMul → i6,reduceToNat → i7
set_option maxRecDepth 4000
open Go Go.Proofs Go.Shelf
attribute [local congr] W_congr WPsq_congr WPp_congr optK_congr addrK_congr intK_congr boolK_congr sliceK_congr tupleK_congr funcK_congr Fn_congr rawK_congr takeK_congr stepK_congr convK_congr aggK_congr

set_option maxHeartbeats 1000000 in
theorem EachG_fn {ok : Blocks} (F : Nat) (hF : callable Tryd.prog F = true) (lb : Array Value) {tb to : Nat} {x : Blk} {m : Value} {u u0 : List TagD} (w : World)
    (hb : blk w tb = some x) (hm : x.1[to]? = some m) (ht : TagsM ok w m u0) (hpm : u.Perm u0) (hs : (u.map (·.1)).Pairwise (· < ·)) (hlen : u.length ≤ 32767)
    (S : Nat → Prop) (hS1 : ¬ S tb) (hS2 : ∀ b,b < w.heap.size → ok b → ¬ S b) (hS3 : ∀ b,S b → b < w.heap.size)
    (I : World → List TagD → World → Prop) (h0 : ∀ wl,Ext w wl → I wl [] wl)
    (hstep : ∀ wl,Ext w wl → ∀ done y vv w1,(done ++ [y]) <+: u → I wl done w1 → Upd S wl w1 → BytesV ok w vv y.2 → y.1 < 2 ^ 32 → Fn Tryd.prog F (#[.int .u32 y.1,vv] ++ lb) w1 fun _ w2 => I wl (done ++ [y]) w2 ∧ Upd S wl w2) :
    Fn Tryd.prog 19 #[.pointer (some ⟨tb,to,none⟩),.func (.func F) #[] lb] w fun _ w' => ∃ wl,Ext w wl ∧ I wl u w' ∧ Upd S wl w' := by
  have hbl := blk_lt hb
  refine fn_of_W Tryd.func19 rfl Tryd.results19 Tryd.ntmps19 rfl ?_
  have hul := hpm.length_eq
  rcases ht with ⟨rfl,rfl⟩ | ⟨r,es,clock,rfl,hok,hr,hsz,he,hinj⟩
  · obtain rfl : u = [] := hpm.eq_nil
    repeat ((first | refine qA rfl ?_|refine qB ?_|refine qC rfl ?_|refine qD ?_|refine qE ?_|refine qF ?_|refine qG ?_|refine qH ?_);try simp (maxSteps:=1000000)(disch:=(first|omega|(simp only [qI,qJ,qK]<;>omega)|exact qL _)) only [go_sem,↓reduceIte,n0,reduceCtorEq,n1,n2,n3,n4,n5,i0,i1,i2,i3,i4,i5,i6,i7,hb,hm])
    refine wp_len_nil tagsT rfl ?_
    simp (maxSteps:=1000000)(disch:=(first|omega|(simp only [qI,qJ,qK]<;>omega)|exact qL _)) only [go_sem,↓reduceIte,n0,reduceCtorEq,n1,n2,n3,n4,n5,i0,i1,i2,i3,i4,i5,i6,i7]
    repeat ((first | refine qA rfl ?_|refine qB ?_|refine qC rfl ?_|refine qD ?_|refine qE ?_|refine qF ?_|refine qG ?_|refine qH ?_);try simp (maxSteps:=1000000)(disch:=(first|omega|(simp only [qI,qJ,qK]<;>omega)|exact qL _)) only [go_sem,↓reduceIte,n0,reduceCtorEq,n1,n2,n3,n4,n5,i0,i1,i2,i3,i4,i5,i6,i7])
    exact ⟨w,Upd.refl _ _,h0 w (Upd.refl _ _),Upd.refl _ _⟩
  have hrl := heap_lt hr
  repeat ((first | refine qA rfl ?_|refine qB ?_|refine qC rfl ?_|refine qD ?_|refine qE ?_|refine qF ?_|refine qG ?_|refine qH ?_);try simp (maxSteps:=1000000)(disch:=(first|omega|(simp only [qI,qJ,qK]<;>omega)|exact qL _)) only [go_sem,↓reduceIte,n0,reduceCtorEq,n1,n2,n3,n4,n5,i0,i1,i2,i3,i4,i5,i6,i7,hb,hm])
  refine wp_len_map tagsT rfl hr ?_
  by_cases hz : u.length = 0
  · have hz1 : (es.size : Int) = 0 := by omega
    obtain rfl : u = [] := List.eq_nil_of_length_eq_zero hz
    simp (maxSteps:=1000000)(disch:=(first|omega|(simp only [qI,qJ,qK]<;>omega)|exact qL _)) only [go_sem,↓reduceIte,n0,reduceCtorEq,n1,n2,n3,n4,n5,i0,i1,i2,i3,i4,i5,i6,i7,hz1]
    repeat ((first | refine qA rfl ?_|refine qB ?_|refine qC rfl ?_|refine qD ?_|refine qE ?_|refine qF ?_|refine qG ?_|refine qH ?_);try simp (maxSteps:=1000000)(disch:=(first|omega|(simp only [qI,qJ,qK]<;>omega)|exact qL _)) only [go_sem,↓reduceIte,n0,reduceCtorEq,n1,n2,n3,n4,n5,i0,i1,i2,i3,i4,i5,i6,i7])
    exact ⟨w,Upd.refl _ _,h0 w (Upd.refl _ _),Upd.refl _ _⟩
  have hz1 : ¬ (es.size : Int) = 0 := by omega
  simp (maxSteps:=1000000)(disch:=(first|omega|(simp only [qI,qJ,qK]<;>omega)|exact qL _)) only [go_sem,↓reduceIte,n0,reduceCtorEq,n1,n2,n3,n4,n5,i0,i1,i2,i3,i4,i5,i6,i7,hz1]
  repeat ((first | refine qA rfl ?_|refine qB ?_|refine qC rfl ?_|refine qD ?_|refine qE ?_|refine qF ?_|refine qG ?_|refine qH ?_);try simp (maxSteps:=1000000)(disch:=(first|omega|(simp only [qI,qJ,qK]<;>omega)|exact qL _)) only [go_sem,↓reduceIte,n0,reduceCtorEq,n1,n2,n3,n4,n5,i0,i1,i2,i3,i4,i5,i6,i7,hb,hm])
  refine wp_len_map tagsT rfl hr ?_
  simp (maxSteps:=1000000)(disch:=(first|omega|(simp only [qI,qJ,qK]<;>omega)|exact qL _)) only [go_sem,↓reduceIte,n0,reduceCtorEq,n1,n2,n3,n4,n5,i0,i1,i2,i3,i4,i5,i6,i7]
  refine wp_make (T := 78) (E := 58) (size := 1) (bytes := 4) (z := .int .u32 0) (l := 0) (c := es.size) (kl := .i64) (kc := .i64) (by kernel_rfl) (by kernel_rfl) (by simp (maxSteps:=1000000)(disch:=(first|omega|(simp only [qI,qJ,qK]<;>omega)|exact qL _)) only [go_sem,↓reduceIte,n0,reduceCtorEq,n1,n2,n3,n4,n5,i0,i1,i2,i3,i4,i5,i6,i7];rfl) (by simp (maxSteps:=1000000)(disch:=(first|omega|(simp only [qI,qJ,qK]<;>omega)|exact qL _)) only [go_sem,↓reduceIte,n0,reduceCtorEq,n1,n2,n3,n4,n5,i0,i1,i2,i3,i4,i5,i6,i7]) (by omega) (by omega) (by omega) ?_
  simp (maxSteps:=1000000)(disch:=(first|omega|(simp only [qI,qJ,qK]<;>omega)|exact qL _)) only [go_sem,↓reduceIte,n0,reduceCtorEq,n1,n2,n3,n4,n5,i0,i1,i2,i3,i4,i5,i6,i7]
  have hsl : es.size ≤ 32767 := by omega
  generalize hw2 : (wr ((w.alloc (.cells (madeCells #[.int .u32 0] (es.size * 1)) 58)).alloc (.cells #[.slice none 0 0] 78)) (w.heap.size + 1) 0 [.slice (some ⟨w.heap.size,0,none⟩) 0 es.size]) = w2
  have hE2 : Ext w w2 := by rw [← hw2];exact (Upd.alloc (Upd.alloc (Upd.refl _ _) _) _).wr _ _ (.inl (by omega))
  have hz2 : w2.heap.size = w.heap.size + 2 := by rw [← hw2];simp only [size_wr,World.size_alloc]
  have hrow2 : blk w2 w.heap.size = some ((List.replicate es.size (.int .u32 0)).toArray,58,(0,0)) := by rw [← hw2];simp (maxSteps:=1000000)(disch:=(first|omega|(simp only [qI,qJ,qK]<;>omega)|exact qL _)) only [go_sem,↓reduceIte,n0,reduceCtorEq,n1,n2,n3,n4,n5,i0,i1,i2,i3,i4,i5,i6,i7,made_one,Nat.mul_one]
  have hown2 : Own w.heap.size w2 58 1 (.slice (some ⟨w.heap.size,0,none⟩) 0 es.size) 0 [] := ⟨rfl,.inr ⟨w.heap.size,es.size,List.replicate es.size (.int .u32 0),(0,0),rfl,Nat.le_refl _,hrow2,by simp,thaw_00 _ _,Nat.zero_le _⟩⟩
  have hbx2 : blk w2 (w.heap.size + 1) = some (#[.slice (some ⟨w.heap.size,0,none⟩) 0 es.size],78,(0,0)) := by rw [← hw2];simp (maxSteps:=1000000)(disch:=(first|omega|(simp only [qI,qJ,qK]<;>omega)|exact qL _)) only [go_sem,↓reduceIte,n0,reduceCtorEq,n1,n2,n3,n4,n5,i0,i1,i2,i3,i4,i5,i6,i7]
  have hb2 : blk w2 tb = some x := hE2.blk_some hb id
  have hr2 : w2.heap[r]? = some (.map es clock) := by rw [hE2.keep r hrl id];exact hr
  clear hw2 hrow2
  repeat ((first | refine qA rfl ?_|refine qB ?_|refine qC rfl ?_|refine qD ?_|refine qE ?_|refine qF ?_|refine qG ?_|refine qH ?_);try simp (maxSteps:=1000000)(disch:=(first|omega|(simp only [qI,qJ,qK]<;>omega)|exact qL _)) only [go_sem,↓reduceIte,n0,reduceCtorEq,n1,n2,n3,n4,n5,i0,i1,i2,i3,i4,i5,i6,i7,hb2,hm])
  refine wp_range tagsT rfl hr2 ?_
  simp (maxSteps:=1000000)(disch:=(first|omega|(simp only [qI,qJ,qK]<;>omega)|exact qL _)) only [go_sem,↓reduceIte,n0,reduceCtorEq,n1,n2,n3,n4,n5,i0,i1,i2,i3,i4,i5,i6,i7]
  generalize hw3 : w2.alloc (.mapIter (some r) clock #[] clock) = w3
  have hE3 : Ext w w3 := by rw [← hw3];exact hE2.alloc _
  have hz3 : w3.heap.size = w2.heap.size + 1 := by rw [← hw3,World.size_alloc]
  have hit3 : w3.heap[w2.heap.size]? = some (.mapIter (some r) clock #[] clock) := by
    rw [← hw3];show (w2.heap.push _)[w2.heap.size]? = _;simp
  have hown3 : Own w.heap.size w3 58 1 (.slice (some ⟨w.heap.size,0,none⟩) 0 es.size) 0 [] := by rw [← hw3];exact hown2.alloc _
  have hbx3 : blk w3 (w.heap.size + 1) = some (#[.slice (some ⟨w.heap.size,0,none⟩) 0 es.size],78,(0,0)) := by rw [← hw3,blk_alloc_old (by omega)];exact hbx2
  clear hw3 hown2 hbx2 hb2 hr2
  have hold := tm_old hsz he
  have hnod := tm_nodup hinj
  have hKU := tm_keysU hsz he
  have hkeys := tm_keys hsz he
  repeat ((first | refine qA rfl ?_|refine qB ?_|refine qC rfl ?_|refine qD ?_|refine qE ?_|refine qF ?_|refine qG ?_|refine qH ?_);try simp (maxSteps:=1000000)(disch:=(first|omega|(simp only [qI,qJ,qK]<;>omega)|exact qL _)) only [go_sem,↓reduceIte,n0,reduceCtorEq,n1,n2,n3,n4,n5,i0,i1,i2,i3,i4,i5,i6,i7])
  refine W.exitJ 0 (fun ρ w' => ∃ seen xs l rest v,Ranged es seen xs l rest ∧ (leftOf es seen).size = 0 ∧ blk w' (w.heap.size + 1) = some (#[v],78,(0,0)) ∧ Own w.heap.size w' 58 1 v xs.length (xs.map u32V) ∧ Ext w w' ∧
      ρ 0 = .pointer (some ⟨tb,to,none⟩) ∧ ρ 1 = .func (.func F) #[] lb ∧ ρ 4 = .pointer (some ⟨w.heap.size + 1,0,none⟩))
    (W.loop (fun ρ w' => ∃ seen xs l rest v,Ranged es seen xs l rest ∧ w'.heap[w2.heap.size]? = some (.mapIter (some r) clock seen clock) ∧ blk w' (w.heap.size + 1) = some (#[v],78,(0,0)) ∧ Own w.heap.size w' 58 1 v xs.length (xs.map u32V) ∧ Ext w w' ∧
      ρ 0 = .pointer (some ⟨tb,to,none⟩) ∧ ρ 1 = .func (.func F) #[] lb ∧ ρ 4 = .pointer (some ⟨w.heap.size + 1,0,none⟩) ∧ ρ 24 = .pointer (some ⟨w2.heap.size,0,none⟩))
      (fun _ w' => es.size - lenBox (blk w' (w.heap.size + 1))) ?_ ?_) ?_
  · refine ⟨#[],[],[],es.toList,_,Ranged.start es,hit3,hbx3,hown3,hE3,?_,?_,?_,?_⟩ <;> simp (maxSteps:=1000000)(disch:=(first|omega|(simp only [qI,qJ,qK]<;>omega)|exact qL _)) only [go_sem,↓reduceIte,n0,reduceCtorEq,n1,n2,n3,n4,n5,i0,i1,i2,i3,i4,i5,i6,i7]
  · rintro ρ w4 ⟨seen,xs,l,rest,v,hR,hit,hbx,hown,hE4,h0',h1',h4,h24⟩
    have hr4 : w4.heap[r]? = some (.map es clock) := by rw [hE4.keep r hrl id];exact hr
    have hz4 := hE4.size
    have hitl := heap_lt hit
    obtain ⟨va,vc,rfl,hvc⟩ := hown.shape
    have hlb : lenBox (blk w4 (w.heap.size + 1)) = xs.length := by rw [hbx];rfl
    repeat ((first | refine qA rfl ?_|refine qB ?_|refine qC rfl ?_|refine qD ?_|refine qE ?_|refine qF ?_|refine qG ?_|refine qH ?_);try simp (maxSteps:=1000000)(disch:=(first|omega|(simp only [qI,qJ,qK]<;>omega)|exact qL _)) only [go_sem,↓reduceIte,n0,reduceCtorEq,n1,n2,n3,n4,n5,i0,i1,i2,i3,i4,i5,i6,i7])
    refine wp_next (r := w2.heap.size) (by simp (maxSteps:=1000000)(disch:=(first|omega|(simp only [qI,qJ,qK]<;>omega)|exact qL _)) only [go_sem,↓reduceIte,n0,reduceCtorEq,n1,n2,n3,n4,n5,i0,i1,i2,i3,i4,i5,i6,i7,h24]) hit hr4 hold (Nat.le_refl _) ?_ ?_
    · intro hl0
      simp (maxSteps:=1000000)(disch:=(first|omega|(simp only [qI,qJ,qK]<;>omega)|exact qL _)) only [go_sem,↓reduceIte,n0,reduceCtorEq,n1,n2,n3,n4,n5,i0,i1,i2,i3,i4,i5,i6,i7]
      repeat ((first | refine qA rfl ?_|refine qB ?_|refine qC rfl ?_|refine qD ?_|refine qE ?_|refine qF ?_|refine qG ?_|refine qH ?_);try simp (maxSteps:=1000000)(disch:=(first|omega|(simp only [qI,qJ,qK]<;>omega)|exact qL _)) only [go_sem,↓reduceIte,n0,reduceCtorEq,n1,n2,n3,n4,n5,i0,i1,i2,i3,i4,i5,i6,i7])
      exact ⟨seen,xs,l,rest,_,hR,hl0,hbx,hown,hE4,h0',h1',h4⟩
    · intro e hel w5 hw5
      obtain ⟨rest',hR',hlt⟩ := hR.step hel
      obtain ⟨hee,_⟩ := mem_leftOf hel
      obtain ⟨kn,hkn⟩ := hKU e hee
      have hknn : e.key = u32V (keyN e) := by
        obtain ⟨i,hi,rfl⟩ := List.getElem_of_mem hee
        simp only [Array.length_toList] at hi
        have := (he i (by omega) hi).1.key
        simp only [Array.getElem_toList,keyN,this]
        simp [u32V]
      have hE45 : Ext w4 w5 := by rcases hw5 with rfl | rfl;exact Upd.refl _ _;exact (Upd.refl _ _).drew
      have hh45 : w5.heap = w4.heap := by rcases hw5 with rfl | rfl <;> rfl
      generalize hw6 : Go.ChangeMaps.setBlock w5 w2.heap.size (.mapIter (some r) clock (seen.push e.born) clock) = w6
      have hE6 : Ext w w6 := by rw [← hw6];exact (hE4.trans hE45).setBlock _ _ (.inl (by omega))
      have hU6 : Upd (fun b => b = w2.heap.size) w5 w6 := by rw [← hw6];exact (Upd.refl _ _).setBlock _ _ (.inr rfl)
      have hz6 : w6.heap.size = w4.heap.size := by rw [← hw6,setBlock_size,hh45]
      have hit6 : w6.heap[w2.heap.size]? = some (.mapIter (some r) clock (seen.push e.born) clock) := by rw [← hw6,setBlock_same _ _ _ (by rw [hh45];exact hitl)]
      have hr6 : w6.heap[r]? = some (.map es clock) := by rw [hE6.keep r hrl id];exact hr
      have hbx5 : blk w5 (w.heap.size + 1) = some (#[.slice va xs.length vc],78,(0,0)) := by rw [blk_of_heap (w := w4) (w' := w5) (by rw [hh45])];exact hbx
      have hbx6 : blk w6 (w.heap.size + 1) = some (#[.slice va xs.length vc],78,(0,0)) := hU6.blk_some hbx5 (by omega)
      have hne : ¬ ownB (.slice va xs.length vc) w2.heap.size := own_ne hown fun y hy => by
        unfold blk at hy;rw [hit] at hy;cases hy
      have hown6 : Own w.heap.size w6 58 1 (.slice va xs.length vc) xs.length (xs.map u32V) := Own.upd (Own.upd hown hE45 fun _ _ h => h) hU6 fun b hb e => hne (e ▸ hb)
      clear hw6
      have hkv : e.key = .int .u32 (keyN e : Nat) := hknn
      clear hknn hkn
      generalize keyN e = kk at *
      simp (maxSteps:=1000000)(disch:=(first|omega|(simp only [qI,qJ,qK]<;>omega)|exact qL _)) only [go_sem,↓reduceIte,n0,reduceCtorEq,n1,n2,n3,n4,n5,i0,i1,i2,i3,i4,i5,i6,i7]
      repeat ((first | refine qA rfl ?_|refine qB ?_|refine qC rfl ?_|refine qD ?_|refine qE ?_|refine qF ?_|refine qG ?_|refine qH ?_);try simp (maxSteps:=1000000)(disch:=(first|omega|(simp only [qI,qJ,qK]<;>omega)|exact qL _)) only [go_sem,↓reduceIte,n0,reduceCtorEq,n1,n2,n3,n4,n5,i0,i1,i2,i3,i4,i5,i6,i7])
      refine wp_entry (e := e) (by simp (maxSteps:=1000000)(disch:=(first|omega|(simp only [qI,qJ,qK]<;>omega)|exact qL _)) only [go_sem,↓reduceIte,n0,reduceCtorEq,n1,n2,n3,n4,n5,i0,i1,i2,i3,i4,i5,i6,i7,h24]) hit6 hr6 hee hnod ?_
      simp (maxSteps:=1000000)(disch:=(first|omega|(simp only [qI,qJ,qK]<;>omega)|exact qL _)) only [go_sem,↓reduceIte,n0,reduceCtorEq,n1,n2,n3,n4,n5,i0,i1,i2,i3,i4,i5,i6,i7,hkv]
      repeat ((first | refine qA rfl ?_|refine qB ?_|refine qC rfl ?_|refine qD ?_|refine qE ?_|refine qF ?_|refine qG ?_|refine qH ?_);try simp (maxSteps:=1000000)(disch:=(first|omega|(simp only [qI,qJ,qK]<;>omega)|exact qL _)) only [go_sem,↓reduceIte,n0,reduceCtorEq,n1,n2,n3,n4,n5,i0,i1,i2,i3,i4,i5,i6,i7,hbx6,h4,hkv])
      refine wp_append ap_78_78 (m := 1) (news := [.int .u32 kk]) (n := xs.length) (cs := xs.map u32V) (v := .slice va xs.length vc) ?_ rfl (hown6.alloc (.cells #[.int .u32 kk] 58)) ?_ (Src.blk (fr := (0,0)) (T := 58) (blk_alloc_new rfl) rfl rfl) ?_ ?_ ?_
      · simp (maxSteps:=1000000)(disch:=(first|omega|(simp only [qI,qJ,qK]<;>omega)|exact qL _)) only [go_sem,↓reduceIte,n0,reduceCtorEq,n1,n2,n3,n4,n5,i0,i1,i2,i3,i4,i5,i6,i7]
      · simp only [List.all_map,List.all_eq_true];intro _ _;rfl
      · simp only [World.size_alloc];omega
      · have := hR.len;omega
      intro v' w7 ho7 hu7 hfr7
      obtain ⟨a7,c7,rfl,hc7⟩ := ho7.shape
      have hne6 : ¬ ownB (.slice va xs.length vc) (w.heap.size + 1) := own_ne hown6 fun y hy => by rw [hbx6] at hy;cases hy;exact (by decide : (78 : Nat) ≠ 58)
      have hit6' : ¬ ownB (.slice va xs.length vc) w2.heap.size := hne
      have hE7 : Ext w w7 := Upd.more (hE6.alloc (.cells #[.int .u32 kk] 58)) hu7 fun b hb ho => by have := hown6.above ho;omega
      have hbx7 : blk w7 (w.heap.size + 1) = some (#[.slice va xs.length vc],78,(0,0)) := hu7.blk_some (by rw [blk_alloc_old (by omega)];exact hbx6) hne6
      have hit7 : w7.heap[w2.heap.size]? = some (.mapIter (some r) clock (seen.push e.born) clock) := by
        rw [hu7.keep _ (by simp only [World.size_alloc];omega) hit6',RowKit.Below.heap_alloc _ _ _ (by omega)];exact hit6
      simp (maxSteps:=1000000)(disch:=(first|omega|(simp only [qI,qJ,qK]<;>omega)|exact qL _)) only [go_sem,↓reduceIte,n0,reduceCtorEq,n1,n2,n3,n4,n5,i0,i1,i2,i3,i4,i5,i6,i7,hbx7,h4]
      generalize hw8 : wr w7 (w.heap.size + 1) 0 [.slice a7 (xs.length + 1) c7] = w8
      have hU8 : Upd (fun b => b = w.heap.size + 1) w7 w8 := by rw [← hw8];exact (Upd.refl _ _).wr _ _ (.inr rfl)
      have hE8 : Ext w w8 := by rw [← hw8];exact hE7.wr _ _ (.inl (by omega))
      have hbx8 : blk w8 (w.heap.size + 1) = some (#[.slice a7 (xs.length + 1) c7],78,(0,0)) := by rw [← hw8,blk_wr_eq,hbx7];rfl
      have hne7 : ¬ ownB (.slice a7 (xs.length + 1) c7) (w.heap.size + 1) := own_ne ho7 fun y hy => by rw [hbx7] at hy;cases hy;exact (by decide : (78 : Nat) ≠ 58)
      have hown8 : Own w.heap.size w8 58 1 (.slice a7 (xs.length + 1) c7) (xs ++ [kk]).length ((xs ++ [kk]).map u32V) := by
        have := ho7.upd hU8 (fun b hb e => hne7 (e ▸ hb))
        simpa [u32V] using this
      have hit8 : w8.heap[w2.heap.size]? = some (.mapIter (some r) clock (seen.push e.born) clock) := by rw [hU8.keep _ (heap_lt hit7) (by omega)];exact hit7
      have hlb8 : lenBox (blk w8 (w.heap.size + 1)) = xs.length + 1 := by rw [hbx8];rfl
      clear hw8
      simp (maxSteps:=1000000)(disch:=(first|omega|(simp only [qI,qJ,qK]<;>omega)|exact qL _)) only [go_sem,↓reduceIte,n0,reduceCtorEq,n1,n2,n3,n4,n5,i0,i1,i2,i3,i4,i5,i6,i7,h0',h1',h4,h24]
      refine ⟨⟨_,_,_,_,_,hR',hit8,rfl,hown8,hE8⟩,?_⟩
      rw [hlb];show es.size - (xs.length + 1) < _;omega
  · rintro ρ w4 ⟨seen,xs,l,rest,v,hR,hl0,hbx,hown,hE4,h0',h1',h4⟩
    have hperm := hR.done hl0 hnod
    rw [hkeys] at hperm
    have hxl : xs.length = u.length := by rw [hperm.length_eq,List.length_map,hul]
    rcases hown.2 with ⟨_,h⟩ | ⟨g,cap,rest2,fr,rfl,hg,hgb,hgl,hth,hcap⟩
    · omega
    have hne : w.heap.size + 1 ≠ g := fun e => by
      rw [e] at hbx;rw [hbx] at hgb;simp at hgb
    have hgl4 := blk_lt hgb
    repeat ((first | refine qA rfl ?_|refine qB ?_|refine qC rfl ?_|refine qD ?_|refine qE ?_|refine qF ?_|refine qG ?_|refine qH ?_);try simp (maxSteps:=1000000)(disch:=(first|omega|(simp only [qI,qJ,qK]<;>omega)|exact qL _)) only [go_sem,↓reduceIte,n0,reduceCtorEq,n1,n2,n3,n4,n5,i0,i1,i2,i3,i4,i5,i6,i7,hbx,h4])
    refine (sort_fn (row := g) (c := cap) (b4 := w.heap.size + 1) (N := cap * 1) xs.toArray w4 hgb hth (by simp;omega) hbx rfl hne (u.map (·.1)) (by simpa using hperm.trans (hpm.symm.map (·.1))) hs (by simp;omega)).mono ?_
    rintro r5 w5 ⟨hU5,hg5⟩
    have hE5 : Ext w w5 := Upd.more hE4 hU5 fun b hb e => by omega
    have hbx5 : blk w5 (w.heap.size + 1) = some (#[.slice (some ⟨g,0,none⟩) xs.length cap],78,(0,0)) := hU5.blk_some hbx hne
    repeat ((first | refine qA rfl ?_|refine qB ?_|refine qC rfl ?_|refine qD ?_|refine qE ?_|refine qF ?_|refine qG ?_|refine qH ?_);try simp (maxSteps:=1000000)(disch:=(first|omega|(simp only [qI,qJ,qK]<;>omega)|exact qL _)) only [go_sem,↓reduceIte,n0,reduceCtorEq,n1,n2,n3,n4,n5,i0,i1,i2,i3,i4,i5,i6,i7,hbx5,h4])
    refine W.exitJ 2 (fun ρ w' => I w5 u w' ∧ Upd S w5 w')
      (W.loop (fun ρ w' => ∃ j : Nat,j ≤ u.length ∧ ρ 39 = .int .i64 j ∧ ρ 38 = .int .i64 xs.length ∧ ρ 37 = .slice (some ⟨g,0,none⟩) xs.length cap ∧ ρ 0 = .pointer (some ⟨tb,to,none⟩) ∧ ρ 1 = .func (.func F) #[] lb ∧ I w5 (u.take j) w' ∧ Upd S w5 w')
        (fun ρ _ => u.length - (RowKit.intOf (ρ 39)).toNat) ?_ ?_) ?_
    · refine ⟨0,Nat.zero_le _,?_,?_,?_,?_,?_,h0 w5 hE5,Upd.refl _ _⟩ <;> simp (maxSteps:=1000000)(disch:=(first|omega|(simp only [qI,qJ,qK]<;>omega)|exact qL _)) only [go_sem,↓reduceIte,n0,reduceCtorEq,n1,n2,n3,n4,n5,i0,i1,i2,i3,i4,i5,i6,i7,h0',h1',h4]
      rfl
    · rintro ρ w6 ⟨j,hj,h39,h38,h37,h0',h1',hI,hU⟩
      by_cases hlt : j < u.length
      · have hnS : ∀ b,w.heap.size ≤ b → ¬ S b := fun b hb h => by have := hS3 b h;omega
        have hg6 : blk w6 g = some (((u.map (·.1)).map u32V ++ rest2).toArray,58,fr) := hU.blk_some hg5 (hnS g hg)
        have hb6 : blk w6 tb = some x := hU.blk_some (hE5.blk_some hb id) hS1
        have hr6 : w6.heap[r]? = some (.map es clock) := by
          rw [hU.keep r (Nat.lt_of_lt_of_le hrl hE5.size) (hS2 r hrl hok),hE5.keep r hrl id];exact hr
        have hlt' : (j : Int) < (xs.length : Int) := by omega
        have hlt2 : j < xs.length := by omega
        have hx : (((u.map (·.1)).map u32V ++ rest2).toArray)[j]? = some (.int .u32 (u[j].1 : Nat)) := by
          rw [List.getElem?_toArray,List.getElem?_append_left (by simp;omega)]
          simp [hlt,u32V]
        obtain ⟨i,hi,hie⟩ := List.getElem_of_mem (hpm.mem_iff.1 (List.getElem_mem hlt))
        obtain ⟨hte,_⟩ := he i hi (by omega)
        rw [hie] at hte
        have hpre : u.take j ++ [u[j]] <+: u := by
          rw [← List.take_succ_eq_append_getElem hlt];exact List.take_prefix _ _
        have hst := hstep w5 hE5 (u.take j) u[j] es[i].val w6 hpre hI hU hte.val hte.num
        have hsucc : u.take (j + 1) = u.take j ++ [u[j]] := List.take_succ_eq_append_getElem hlt
        have hnd0 : (u0.map (·.1)).Nodup := (hpm.map (·.1)).nodup_iff.1 (List.nodup_iff_pairwise_ne.2 (hs.imp fun h => Nat.ne_of_lt h))
        have hk3 : ∀ k (hk : k < es.size),k < i → es[k].key ≠ .int .u32 (u[j].1 : Nat) := by
          intro k hk hkj h
          rw [(he k (by omega) hk).1.key] at h
          simp only [Value.int.injEq,true_and] at h
          have := List.pairwise_iff_getElem.1 (List.nodup_iff_pairwise_ne.1 hnd0) k i (by simp;omega) (by simp;omega) hkj
          simp only [List.getElem_map,hie] at this
          omega
        have hk2 := hte.key
        generalize u[j] = y at *
        generalize hev : es[i].val = ev at *
        repeat ((first | refine qA rfl ?_|refine qB ?_|refine qC rfl ?_|refine qD ?_|refine qE ?_|refine qF ?_|refine qG ?_|refine qH ?_);try simp (maxSteps:=1000000)(disch:=(first|omega|(simp only [qI,qJ,qK]<;>omega)|exact qL _)) only [go_sem,↓reduceIte,n0,reduceCtorEq,n1,n2,n3,n4,n5,i0,i1,i2,i3,i4,i5,i6,i7,h39,h38,h37,hg6,hx,Int.toNat_natCast,Nat.mul_one,hb6,hm,h0',h1'])
        refine wp_lookup (i := i) (n := (y.1 : Int)) tagsT u32T (by simp (maxSteps:=1000000)(disch:=(first|omega|(simp only [qI,qJ,qK]<;>omega)|exact qL _)) only [go_sem,↓reduceIte,n0,reduceCtorEq,n1,n2,n3,n4,n5,i0,i1,i2,i3,i4,i5,i6,i7]) (by simp (maxSteps:=1000000)(disch:=(first|omega|(simp only [qI,qJ,qK]<;>omega)|exact qL _)) only [go_sem,↓reduceIte,n0,reduceCtorEq,n1,n2,n3,n4,n5,i0,i1,i2,i3,i4,i5,i6,i7]) hr6 hKU (by omega) hk2 hk3 ?_
        simp (maxSteps:=1000000)(disch:=(first|omega|(simp only [qI,qJ,qK]<;>omega)|exact qL _)) only [go_sem,↓reduceIte,n0,reduceCtorEq,n1,n2,n3,n4,n5,i0,i1,i2,i3,i4,i5,i6,i7,hev,hF,h1']
        refine hst.mono ?_
        rintro r7 w7 ⟨hI7,hU7⟩
        repeat ((first | refine qA rfl ?_|refine qB ?_|refine qC rfl ?_|refine qD ?_|refine qE ?_|refine qF ?_|refine qG ?_|refine qH ?_);try simp (maxSteps:=1000000)(disch:=(first|omega|(simp only [qI,qJ,qK]<;>omega)|exact qL _)) only [go_sem,↓reduceIte,n0,reduceCtorEq,n1,n2,n3,n4,n5,i0,i1,i2,i3,i4,i5,i6,i7,h39])
        refine ⟨⟨j + 1,by omega,?_,h38,h37,h0',h1',by rw [hsucc];exact hI7,hU7⟩,?_⟩
        · rfl
        · simp only [RowKit.intOf];omega
      · have hlt' : ¬ (j : Int) < (xs.length : Int) := by omega
        repeat ((first | refine qA rfl ?_|refine qB ?_|refine qC rfl ?_|refine qD ?_|refine qE ?_|refine qF ?_|refine qG ?_|refine qH ?_);try simp (maxSteps:=1000000)(disch:=(first|omega|(simp only [qI,qJ,qK]<;>omega)|exact qL _)) only [go_sem,↓reduceIte,n0,reduceCtorEq,n1,n2,n3,n4,n5,i0,i1,i2,i3,i4,i5,i6,i7,h39,h38])
        have e : u.take j = u := List.take_of_length_le (by omega)
        rw [e] at hI
        exact ⟨hI,hU⟩
    · rintro ρ w6 ⟨hI,hU⟩
      repeat ((first | refine qA rfl ?_|refine qB ?_|refine qC rfl ?_|refine qD ?_|refine qE ?_|refine qF ?_|refine qG ?_|refine qH ?_);try simp (maxSteps:=1000000)(disch:=(first|omega|(simp only [qI,qJ,qK]<;>omega)|exact qL _)) only [go_sem,↓reduceIte,n0,reduceCtorEq,n1,n2,n3,n4,n5,i0,i1,i2,i3,i4,i5,i6,i7])
      exact ⟨w5,hE5,hI,hU⟩
end Ms

namespace Ms
open Go.World renaming size_alloc → qI
open Ms renaming size_wr → qJ,size_drew → qK,not_noB → qL
open W renaming seqR → qA,seq → qB,regR → qC,condK → qD,block → qE,skip → qF,ret → qG,exit → qH
open Nat renaming reduceEqDiff → n0,reduceAdd → n1,reduceMul → n2,reduceSub → n3,reduceLT → n4,reduceLeDiff → n5
open Int renaming reduceEq → i0,reduceLT → i1,reduceLE → i2,reduceNeg → i3,reduceAdd → i4,reduceSub → i5,reduceMul → i6,reduceToNat → i7
set_option maxRecDepth 8000
set_option maxHeartbeats 2000000
open Go Go.Proofs Go.Shelf
attribute [local congr] W_congr WPsq_congr WPp_congr optK_congr addrK_congr intK_congr boolK_congr sliceK_congr tupleK_congr funcK_congr Fn_congr rawK_congr takeK_congr stepK_congr convK_congr aggK_congr

theorem got_step (t : Tree) (hl2 : t.l.length ≤ 32767) (hl3 : t.u.length ≤ 32767)
    (hrec : ∀ i (h : i < t.l.length),∀ (ok : Blocks) (ct : List Value) (w : World),TreeC ok w t.l[i] ct → Fn Tryd.prog 9 #[.agg ct.toArray] w fun r w' => TreeRg ok w w' r t.l[i] ∧ Ext w w')
    (ok : Blocks) (ct : List Value) (w : World) (ht : TreeC ok w t ct) :
    Fn Tryd.prog 9 #[.agg ct.toArray] w fun r w' => TreeRg ok w w' r t ∧ Ext w w' := by
  obtain ⟨vS,vL,vU,rfl,hn,hS,hL,hU⟩ := ht.inv
  obtain ⟨bS,cS,rfl,hcS⟩ := hS.shape
  obtain ⟨bl,cl,rfl,hcl⟩ := SlR.shape hL
  obtain ⟨bu,cu,rfl,hcu⟩ := SlR.shape hU
  have hE : Ext w (wr (((w.alloc (.cells #[.int .i64 t.n,.slice bS t.s.length cS,.bool t.null,.slice bl t.l.length cl,.slice bu t.u.length cu] 26)).alloc (.cells #[.int .i64 0,.slice none 0 0,.bool false,.slice none 0 0,.slice none 0 0] 37)).alloc (.cells #[.int .i64 0,.slice none 0 0,.bool false,.slice none 0 0,.slice none 0 0] 37)) (w.heap.size + 2) 0 [.int .i64 t.n,.slice bS t.s.length cS,.bool t.null,.slice none 0 0,.slice none 0 0]) := (((Upd.refl _ _).alloc _).alloc _).alloc _ |>.wr _ _ (.inl (by omega))
  refine fn_of_W Tryd.func9 rfl Tryd.results9 Tryd.ntmps9 rfl ?_
  repeat ((first | refine qA rfl ?_|refine qB ?_|refine qC rfl ?_|refine qD ?_|refine qE ?_|refine qF ?_|refine qG ?_|refine qH ?_);try simp (maxSteps:=1000000)(disch:=(first|omega|(simp only [qI,qJ,qK]<;>omega)|exact qL _)) only [go_sem,↓reduceIte,n0,reduceCtorEq,n1,n2,n3,n4,n5,i0,i1,i2,i3,i4,i5,i6,i7])
  have hb0 : blk (wr (((w.alloc (.cells #[.int .i64 t.n,.slice bS t.s.length cS,.bool t.null,.slice bl t.l.length cl,.slice bu t.u.length cu] 26)).alloc (.cells #[.int .i64 0,.slice none 0 0,.bool false,.slice none 0 0,.slice none 0 0] 37)).alloc (.cells #[.int .i64 0,.slice none 0 0,.bool false,.slice none 0 0,.slice none 0 0] 37)) (w.heap.size + 2) 0 [.int .i64 t.n,.slice bS t.s.length cS,.bool t.null,.slice none 0 0,.slice none 0 0]) w.heap.size = some (#[.int .i64 t.n,.slice bS t.s.length cS,.bool t.null,.slice bl t.l.length cl,.slice bu t.u.length cu],26,(0,0)) := by simp (maxSteps:=1000000)(disch:=(first|omega|(simp only [qI,qJ,qK]<;>omega)|exact qL _)) only [go_sem,↓reduceIte,n0,reduceCtorEq,n1,n2,n3,n4,n5,i0,i1,i2,i3,i4,i5,i6,i7]
  have hb1 : blk (wr (((w.alloc (.cells #[.int .i64 t.n,.slice bS t.s.length cS,.bool t.null,.slice bl t.l.length cl,.slice bu t.u.length cu] 26)).alloc (.cells #[.int .i64 0,.slice none 0 0,.bool false,.slice none 0 0,.slice none 0 0] 37)).alloc (.cells #[.int .i64 0,.slice none 0 0,.bool false,.slice none 0 0,.slice none 0 0] 37)) (w.heap.size + 2) 0 [.int .i64 t.n,.slice bS t.s.length cS,.bool t.null,.slice none 0 0,.slice none 0 0]) (w.heap.size + 1) = some (#[.int .i64 0,.slice none 0 0,.bool false,.slice none 0 0,.slice none 0 0],37,(0,0)) := by simp (maxSteps:=1000000)(disch:=(first|omega|(simp only [qI,qJ,qK]<;>omega)|exact qL _)) only [go_sem,↓reduceIte,n0,reduceCtorEq,n1,n2,n3,n4,n5,i0,i1,i2,i3,i4,i5,i6,i7]
  have hb2 : blk (wr (((w.alloc (.cells #[.int .i64 t.n,.slice bS t.s.length cS,.bool t.null,.slice bl t.l.length cl,.slice bu t.u.length cu] 26)).alloc (.cells #[.int .i64 0,.slice none 0 0,.bool false,.slice none 0 0,.slice none 0 0] 37)).alloc (.cells #[.int .i64 0,.slice none 0 0,.bool false,.slice none 0 0,.slice none 0 0] 37)) (w.heap.size + 2) 0 [.int .i64 t.n,.slice bS t.s.length cS,.bool t.null,.slice none 0 0,.slice none 0 0]) (w.heap.size + 2) = some (#[.int .i64 t.n,.slice bS t.s.length cS,.bool t.null,.slice none 0 0,.slice none 0 0],37,(0,0)) := by simp (maxSteps:=1000000)(disch:=(first|omega|(simp only [qI,qJ,qK]<;>omega)|exact qL _)) only [go_sem,↓reduceIte,n0,reduceCtorEq,n1,n2,n3,n4,n5,i0,i1,i2,i3,i4,i5,i6,i7]
  have hz2 : (wr (((w.alloc (.cells #[.int .i64 t.n,.slice bS t.s.length cS,.bool t.null,.slice bl t.l.length cl,.slice bu t.u.length cu] 26)).alloc (.cells #[.int .i64 0,.slice none 0 0,.bool false,.slice none 0 0,.slice none 0 0] 37)).alloc (.cells #[.int .i64 0,.slice none 0 0,.bool false,.slice none 0 0,.slice none 0 0] 37)) (w.heap.size + 2) 0 [.int .i64 t.n,.slice bS t.s.length cS,.bool t.null,.slice none 0 0,.slice none 0 0]).heap.size = w.heap.size + 3 := by simp only [size_wr,World.size_alloc]
  generalize (wr (((w.alloc (.cells #[.int .i64 t.n,.slice bS t.s.length cS,.bool t.null,.slice bl t.l.length cl,.slice bu t.u.length cu] 26)).alloc (.cells #[.int .i64 0,.slice none 0 0,.bool false,.slice none 0 0,.slice none 0 0] 37)).alloc (.cells #[.int .i64 0,.slice none 0 0,.bool false,.slice none 0 0,.slice none 0 0] 37)) (w.heap.size + 2) 0 [.int .i64 t.n,.slice bS t.s.length cS,.bool t.null,.slice none 0 0,.slice none 0 0]) = w2 at *
  refine W.exitJ 0 (fun ρ w' => ∃ v,ρ 1 = .pointer (some ⟨w.heap.size,0,none⟩) ∧ ρ 2 = .pointer (some ⟨w.heap.size + 1,0,none⟩) ∧ ρ 3 = .pointer (some ⟨w.heap.size + 2,0,none⟩) ∧
      blk w' (w.heap.size + 2) = some (#[.int .i64 t.n,.slice bS t.s.length cS,.bool t.null,v,.slice none 0 0],37,(0,0)) ∧ GrowT (fun b => okN ok w.heap.size b ∧ b ≠ w.heap.size + 1 ∧ b ≠ w.heap.size + 2) w2.heap.size (w.heap.size + 2) w' 37 v t.l ∧ Upd (fun b => b = w.heap.size + 2) w2 w')
    (W.loop (fun ρ w' => ∃ (j : Nat) (v : Value),j ≤ t.l.length ∧ ρ 18 = .int .i64 j ∧ ρ 17 = .int .i64 t.l.length ∧ ρ 16 = .slice bl t.l.length cl ∧ ρ 1 = .pointer (some ⟨w.heap.size,0,none⟩) ∧ ρ 2 = .pointer (some ⟨w.heap.size + 1,0,none⟩) ∧ ρ 3 = .pointer (some ⟨w.heap.size + 2,0,none⟩) ∧
      blk w' (w.heap.size + 2) = some (#[.int .i64 t.n,.slice bS t.s.length cS,.bool t.null,v,.slice none 0 0],37,(0,0)) ∧ GrowT (fun b => okN ok w.heap.size b ∧ b ≠ w.heap.size + 1 ∧ b ≠ w.heap.size + 2) w2.heap.size (w.heap.size + 2) w' 37 v (t.l.take j) ∧ Upd (fun b => b = w.heap.size + 2) w2 w')
    (fun ρ _ => t.l.length - (RowKit.intOf (ρ 18)).toNat) ?_ ?_) ?_
  · refine ⟨0,_,Nat.zero_le _,?_,?_,?_,?_,?_,?_,hb2,GrowT.nil _ _ _ _ _,Upd.refl _ _⟩ <;> simp (maxSteps:=1000000)(disch:=(first|omega|(simp only [qI,qJ,qK]<;>omega)|exact qL _)) only [go_sem,↓reduceIte,n0,reduceCtorEq,n1,n2,n3,n4,n5,i0,i1,i2,i3,i4,i5,i6,i7]
    all_goals rfl
  · rintro ρ w6 ⟨j,v,hj,h18,h17,h16,h1,h2,h3,hbt,hg,hU6⟩
    have hz6 := hU6.size
    have hE06 : Ext w w6 := hE.more hU6 fun b hb h => by omega
    by_cases hlt : j < t.l.length
    · obtain ⟨_,b,o,x,vS',vL',vU',hb,hokb,hx,hblt,hxs,hxe,g1,g2,g3,hc⟩ := TreesV.get hL hlt
      subst hb
      have hx6 : blk w6 b = some x := hE06.blk_some hx id
      have hcat : t.l.take (j + 1) = t.l.take j ++ [t.l[j]] := List.take_succ_eq_append_getElem hlt
      have hlen9 : (t.l.take j).length = j := by simp;omega
      have hnb : ∀ b,b < w2.heap.size ∨ b = w6.heap.size → ¬ ownB v b := fun b hb h => by
        have := hg.above h
        have := hg.below h
        omega
      have hE7 : Ext w6 (wr (w6.alloc (.cells #[.int .i64 0,.slice none 0 0,.bool false,.slice none 0 0,.slice none 0 0] 26)) w6.heap.size 0 [.int .i64 t.l[j].n,vS',.bool t.l[j].null,vL',vU']) := (Upd.alloc (Upd.refl _ _) _).wr _ _ (.inl (Nat.le_refl _))
      have hb7 : blk (wr (w6.alloc (.cells #[.int .i64 0,.slice none 0 0,.bool false,.slice none 0 0,.slice none 0 0] 26)) w6.heap.size 0 [.int .i64 t.l[j].n,vS',.bool t.l[j].null,vL',vU']) w6.heap.size = some (#[.int .i64 t.l[j].n,vS',.bool t.l[j].null,vL',vU'],26,(0,0)) := by simp (maxSteps:=1000000)(disch:=(first|omega|(simp only [qI,qJ,qK]<;>omega)|exact qL _)) only [go_sem,↓reduceIte,n0,reduceCtorEq,n1,n2,n3,n4,n5,i0,i1,i2,i3,i4,i5,i6,i7]
      have hz7 : (wr (w6.alloc (.cells #[.int .i64 0,.slice none 0 0,.bool false,.slice none 0 0,.slice none 0 0] 26)) w6.heap.size 0 [.int .i64 t.l[j].n,vS',.bool t.l[j].null,vL',vU']).heap.size = w6.heap.size + 1 := by simp only [size_wr,World.size_alloc]
      have hrecj := hrec j hlt (fun b => ok b ∧ b < w.heap.size) [.int .i64 t.l[j].n,vS',.bool t.l[j].null,vL',vU']
      repeat ((first | refine qA rfl ?_|refine qB ?_|refine qC rfl ?_|refine qD ?_|refine qE ?_|refine qF ?_|refine qG ?_|refine qH ?_);try simp (maxSteps:=1000000)(disch:=(first|omega|(simp only [qI,qJ,qK]<;>omega)|exact qL _)) only [go_sem,↓reduceIte,n0,reduceCtorEq,n1,n2,n3,n4,n5,i0,i1,i2,i3,i4,i5,i6,i7,h18,h17,h16,hx6,hxe,g1,g2,g3,cellsAt_five,Int.toNat_natCast])
      generalize (wr (w6.alloc (.cells #[.int .i64 0,.slice none 0 0,.bool false,.slice none 0 0,.slice none 0 0] 26)) w6.heap.size 0 [.int .i64 t.l[j].n,vS',.bool t.l[j].null,vL',vU']) = w7 at *
      have hbt7 := hE7.blk_some hbt id
      refine W.drawR (.take 0 (.take 1 (.take 2 (.only 3 (.only 4 (.only 5 (.take 6 (.last 7)))))))) (ownB v) mixed (by kernel_rfl) ?_
      simp (maxSteps:=1000000)(disch:=(first|omega|(simp only [qI,qJ,qK]<;>omega)|exact qL _ | (refine hnb _ ?_;first | omega | (simp only [World.size_alloc,size_wr,size_drew] <;> omega)))) only [go_sem,↓reduceIte,n0,reduceCtorEq,n1,n2,n3,n4,n5,i0,i1,i2,i3,i4,i5,i6,i7,h3,hbt7,hb7,cellsAt_five,cellsAt_eight]
      have hE7d : Ext w7 w7.drew := (Upd.refl _ _).drew
      have hE07d : Ext w w7.drew := (hE06.trans hE7).trans hE7d
      have hzd : w7.drew.heap.size = w7.heap.size := size_drew _
      refine (hrecj w7.drew ((hc.weaken fun b h1 h2 => ⟨h2,h1⟩).keep (hE07d.keeps _))).mono ?_
      rintro v8 w8 ⟨⟨c8,rfl,hc8⟩,hE8⟩
      generalize t.l[j] = T at *
      obtain ⟨vS8,vL8,vU8,rfl,hn8,hS8,hL8,hU8⟩ := hc8.inv
      have k1 := hS8.flat
      have k2 := SlR.flat hL8
      have k3 := SlR.flat hU8
      have hz8 := hE8.size
      simp only [size_drew] at hz8
      have hM8 : Upd (ownB v) w7.drew w8 := hE8.mono (fun _ h => h.elim)
      have hE68 : Ext w6 w8 := (hE7.trans hE7d).trans hE8
      have hE9 : Ext w8 (w8.alloc (.cells #[.int .i64 T.n,vS8,.bool T.null,vL8,vU8] 37)) := Upd.alloc (Upd.refl _ _) _
      have hM9 : Upd (ownB v) w7.drew (w8.alloc (.cells #[.int .i64 T.n,vS8,.bool T.null,vL8,vU8] 37)) := hM8.alloc _
      refine ⟨hM8,?_⟩
      simp (maxSteps:=1000000)(disch:=(first|omega|(simp only [qI,qJ,qK]<;>omega)|exact qL _)) only [go_sem,↓reduceIte,n0,reduceCtorEq,n1,n2,n3,n4,n5,i0,i1,i2,i3,i4,i5,i6,i7,k1,k2,k3]
      refine ⟨hM9,?_⟩
      have hg9 := (hg.ext hE68).ext hE9
      have hx9 : TreeC (fun b => (fun b => okN ok w.heap.size b ∧ b ≠ w.heap.size + 1 ∧ b ≠ w.heap.size + 2) b ∧ b ≠ w.heap.size + 2 ∧ ¬ ownB v b) (w8.alloc (.cells #[.int .i64 T.n,vS8,.bool T.null,vL8,vU8] 37)) T [.int .i64 T.n,vS8,.bool T.null,vL8,vU8] :=
        (hc8.keep (hE9.keeps _)).weaken fun b _ hk => by
          rcases hk with ⟨h1,h2⟩ | h2
          · exact ⟨⟨.inl h1,by omega,by omega⟩,by omega,fun h => by have := hg.above h;omega⟩
          · exact ⟨⟨.inr (by omega),by omega,by omega⟩,by omega,fun h => by have := hg.below h;omega⟩
      obtain ⟨css,hown,hall⟩ := hg9.ex
      have hcl9 := hall.1
      refine wp_append ap_34_34 (m := 1) (news := [.int .i64 T.n,vS8,.bool T.null,vL8,vU8]) (n := css.length) (cs := css.flatten) (v := v) ?_ rfl hown.1 (all2_flat_tree hall) (Src.blk (fr := (0,0)) (T := 37) (blk_alloc_new rfl) rfl (flat_tree hx9).1) ?_ ?_ ?_
      · simp (maxSteps:=1000000)(disch:=(first|omega|(simp only [qI,qJ,qK]<;>omega)|exact qL _)) only [go_sem,↓reduceIte,n0,reduceCtorEq,n1,n2,n3,n4,n5,i0,i1,i2,i3,i4,i5,i6,i7]
      · simp only [World.size_alloc];omega
      · omega
      intro v' w10 ho hu hfr
      have hg10 := GrowT.snoc hown hall hx9 hu hfr ho
      have hz10 := hu.size
      simp only [World.size_alloc] at hz10
      obtain ⟨va,vc,hv',_⟩ := ho.shape
      subst hv'
      have hbt10 := (hM9.trans hu).blk_some (hE7d.blk_some hbt7 id) (hnb _ (by omega))
      have htb : ¬ ownB (.slice va (css.length + 1) vc) (w.heap.size + 2) := fun h => by
        rcases hfr _ h with h | h
        · exact hnb _ (.inl (by omega)) h
        · simp only [World.size_alloc] at h;omega
      simp (maxSteps:=1000000)(disch:=(first|omega|(simp only [qI,qJ,qK]<;>omega)|exact qL _)) only [go_sem,↓reduceIte,n0,reduceCtorEq,n1,n2,n3,n4,n5,i0,i1,i2,i3,i4,i5,i6,i7]
      refine ⟨hM9.trans hu,?_⟩
      simp (maxSteps:=1000000)(disch:=(first|omega|(simp only [qI,qJ,qK]<;>omega)|exact qL _)) only [go_sem,↓reduceIte,n0,reduceCtorEq,n1,n2,n3,n4,n5,i0,i1,i2,i3,i4,i5,i6,i7,h3,hbt10]
      repeat ((first | refine qA rfl ?_|refine qB ?_|refine qC rfl ?_|refine qD ?_|refine qE ?_|refine qF ?_|refine qG ?_|refine qH ?_);try simp (maxSteps:=1000000)(disch:=(first|omega|(simp only [qI,qJ,qK]<;>omega)|exact qL _)) only [go_sem,↓reduceIte,n0,reduceCtorEq,n1,n2,n3,n4,n5,i0,i1,i2,i3,i4,i5,i6,i7,h18])
      refine ⟨⟨j + 1,.slice va (css.length + 1) vc,by omega,rfl,h17,h16,h1,h2,h3,?_,?_,?_⟩,?_⟩
      · simp (maxSteps:=1000000)(disch:=(first|omega|(simp only [qI,qJ,qK]<;>omega)|exact qL _)) only [go_sem,↓reduceIte,n0,reduceCtorEq,n1,n2,n3,n4,n5,i0,i1,i2,i3,i4,i5,i6,i7,hbt10]
      · rw [hcat];exact hg10.upd ((Upd.refl _ _).wr _ _ (.inr rfl)) htb
      · refine Upd.wr ?_ _ _ (.inr rfl)
        exact hU6.more (((hE68.trans hE9).mono fun _ h => h.elim).trans hu) fun b hb h => by have := hg.above h;omega
      · simp only [RowKit.intOf];omega
    · have hjl : j = t.l.length := by omega
      subst hjl
      rw [List.take_length] at hg
      repeat ((first | refine qA rfl ?_|refine qB ?_|refine qC rfl ?_|refine qD ?_|refine qE ?_|refine qF ?_|refine qG ?_|refine qH ?_);try simp (maxSteps:=1000000)(disch:=(first|omega|(simp only [qI,qJ,qK]<;>omega)|exact qL _)) only [go_sem,↓reduceIte,n0,reduceCtorEq,n1,n2,n3,n4,n5,i0,i1,i2,i3,i4,i5,i6,i7,h18,h17])
      exact ⟨v,h1,h2,h3,hbt,hg,hU6⟩
  · rintro ρ w5 ⟨vl,h1,h2,h3,hbt,hg,hU5⟩
    have hz5 := hU5.size
    have hE05 : Ext w w5 := hE.more hU5 fun b hb h => by omega
    have hb05 := hU5.blk_some hb0 (by omega)
    have hb15 := hU5.blk_some hb1 (by omega)
    obtain ⟨al,cl',hvl,hcl'⟩ := hg.shape
    subst hvl
    have hTL : TreesV (fun b => (fun b => okN ok w.heap.size b ∧ b ≠ w.heap.size + 1 ∧ b ≠ w.heap.size + 2) b ∧ b < w5.heap.size) w5 (.slice al t.l.length cl') t.l :=
      (hg.trees (ok' := (fun b => okN ok w.heap.size b ∧ b ≠ w.heap.size + 1 ∧ b ≠ w.heap.size + 2)) (fun _ _ h => h) (fun b hb => ⟨.inr (by omega),by omega,by omega⟩)).weaken fun b h1 h2 => ⟨h2,h1⟩
    simp (maxSteps:=1000000)(disch:=(first|omega|(simp only [qI,qJ,qK]<;>omega)|exact qL _)) only [go_sem,↓reduceIte,n0,reduceCtorEq,n1,n2,n3,n4,n5,i0,i1,i2,i3,i4,i5,i6,i7]
    repeat ((first | refine qA rfl ?_|refine qB ?_|refine qC rfl ?_|refine qD ?_|refine qE ?_|refine qF ?_|refine qG ?_|refine qH ?_);try simp (maxSteps:=1000000)(disch:=(first|omega|(simp only [qI,qJ,qK]<;>omega)|exact qL _)) only [go_sem,↓reduceIte,n0,reduceCtorEq,n1,n2,n3,n4,n5,i0,i1,i2,i3,i4,i5,i6,i7,h1,hb05])
    refine W.loop (fun ρ w' => ∃ (j : Nat) (v : Value),j ≤ t.u.length ∧ ρ 33 = .int .i64 j ∧ ρ 32 = .int .i64 t.u.length ∧ ρ 31 = .slice bu t.u.length cu ∧ ρ 2 = .pointer (some ⟨w.heap.size + 1,0,none⟩) ∧ ρ 3 = .pointer (some ⟨w.heap.size + 2,0,none⟩) ∧
        blk w' (w.heap.size + 2) = some (#[.int .i64 t.n,.slice bS t.s.length cS,.bool t.null,.slice al t.l.length cl',v],37,(0,0)) ∧ GrowU (fun b => okN ok w.heap.size b ∧ b ≠ w.heap.size + 1 ∧ b ≠ w.heap.size + 2) w5.heap.size (w.heap.size + 2) w' 60 v (t.u.take j) ∧ Upd (fun b => b = w.heap.size + 2) w5 w')
      (fun ρ _ => t.u.length - (RowKit.intOf (ρ 33)).toNat) ?_ ?_
    · refine ⟨0,_,Nat.zero_le _,?_,?_,?_,?_,?_,hbt,GrowU.nil _ _ _ _ _,Upd.refl _ _⟩ <;> simp (maxSteps:=1000000)(disch:=(first|omega|(simp only [qI,qJ,qK]<;>omega)|exact qL _)) only [go_sem,↓reduceIte,n0,reduceCtorEq,n1,n2,n3,n4,n5,i0,i1,i2,i3,i4,i5,i6,i7,h2,h3]
      all_goals rfl
    · clear h1 h2 h3 hg hbt
      rintro ρ w6 ⟨j,v,hj,h33,h32',h31,h2,h3,hbt,hg,hU6⟩
      have hz6 := hU6.size
      have hE06 : Ext w w6 := hE05.more hU6 fun b hb h => by omega
      by_cases hlt : j < t.u.length
      · obtain ⟨_,b,o,x,vv,hb,hokb,hx,hblt,hxs,hxe,_,_,hfv,hbv,h32⟩ := TagsV.get hU hlt
        subst hb
        have hx6 : blk w6 b = some x := hE06.blk_some hx id
        have hcat : t.u.take (j + 1) = t.u.take j ++ [(t.u[j].1,t.u[j].2)] := List.take_succ_eq_append_getElem hlt
        have hlen9 : (t.u.take j).length = j := by simp;omega
        have hnb : ∀ b,b < w5.heap.size ∨ b = w6.heap.size → ¬ ownB v b := fun b hb h => by
          have := hg.above h
          have := hg.below h
          omega
        generalize t.u[j].1 = K at *
        generalize t.u[j].2 = S at *
        obtain ⟨b8',c8',rfl,_⟩ := hbv.shape
        have hE8 : Ext w6 (wr (w6.alloc (.cells #[.int .u32 0,.slice none 0 0] 61)) w6.heap.size 0 [.int .u32 K,.slice b8' S.length c8']) := (Upd.alloc (Upd.refl _ _) _).wr _ _ (.inl (Nat.le_refl _))
        have hb8 : blk (wr (w6.alloc (.cells #[.int .u32 0,.slice none 0 0] 61)) w6.heap.size 0 [.int .u32 K,.slice b8' S.length c8']) w6.heap.size = some (#[.int .u32 K,.slice b8' S.length c8'],61,(0,0)) := by simp (maxSteps:=1000000)(disch:=(first|omega|(simp only [qI,qJ,qK]<;>omega)|exact qL _)) only [go_sem,↓reduceIte,n0,reduceCtorEq,n1,n2,n3,n4,n5,i0,i1,i2,i3,i4,i5,i6,i7]
        have hz8 : (wr (w6.alloc (.cells #[.int .u32 0,.slice none 0 0] 61)) w6.heap.size 0 [.int .u32 K,.slice b8' S.length c8']).heap.size = w6.heap.size + 1 := by simp only [size_wr,World.size_alloc]
        repeat ((first | refine qA rfl ?_|refine qB ?_|refine qC rfl ?_|refine qD ?_|refine qE ?_|refine qF ?_|refine qG ?_|refine qH ?_);try simp (maxSteps:=1000000)(disch:=(first|omega|(simp only [qI,qJ,qK]<;>omega)|exact qL _)) only [go_sem,↓reduceIte,n0,reduceCtorEq,n1,n2,n3,n4,n5,i0,i1,i2,i3,i4,i5,i6,i7,h33,h32',h31,h3,hx6,hxe,hbt,cellsAt_two,Int.toNat_natCast])
        generalize (wr (w6.alloc (.cells #[.int .u32 0,.slice none 0 0] 61)) w6.heap.size 0 [.int .u32 K,.slice b8' S.length c8']) = w8' at *
        have hbt8 := hE8.blk_some hbt id
        have hbv8 := (hbv.weaken (ok' := fun b => ok b ∧ b < w.heap.size) fun b h1 h2 => ⟨h2,h1⟩).keep (Ext.keeps (hE06.trans hE8) _)
        have hg8 := hg.ext hE8
        have hMd : Upd (ownB v) w8' (w8'.alloc (.cells #[.int .u32 K,.slice b8' S.length c8'] 60)) := (Upd.refl _ _).alloc _
        have hx9 : TagC (fun b => (fun b => okN ok w.heap.size b ∧ b ≠ w.heap.size + 1 ∧ b ≠ w.heap.size + 2) b ∧ b ≠ w.heap.size + 2 ∧ ¬ ownB v b) (w8'.alloc (.cells #[.int .u32 K,(.slice b8' S.length c8')] 60)) (K,S) [.int .u32 K,(.slice b8' S.length c8')] :=
          ⟨(.slice b8' S.length c8'),rfl,(hbv8.keep (Ext.keeps (Upd.alloc (Upd.refl _ _) _) _)).weaken fun b _ hk => ⟨⟨.inl hk.1,by omega,by omega⟩,by omega,fun h => by have := hg.above h;omega⟩,h32⟩
        have hg9 := hg8.ext (Upd.alloc (Upd.refl _ _) (.cells #[.int .u32 K,(.slice b8' S.length c8')] 60))
        obtain ⟨css9,hown9,hall9⟩ := hg9.ex
        have hcl9 := hall9.1
        refine wp_append ap_35_35 (m := 1) (news := [.int .u32 K,(.slice b8' S.length c8')]) (n := css9.length) (cs := css9.flatten) (v := v) ?_ rfl hown9.1 hall9.flat_cells (Src.blk (fr := (0,0)) (T := 60) (blk_alloc_new (by first | rfl | omega)) rfl (flat_tag hx9).1) ?_ ?_ ?_
        · simp (maxSteps:=1000000)(disch:=(first|omega|(simp only [qI,qJ,qK]<;>omega)|exact qL _)) only [go_sem,↓reduceIte,n0,reduceCtorEq,n1,n2,n3,n4,n5,i0,i1,i2,i3,i4,i5,i6,i7]
        · simp only [World.size_alloc];omega
        · omega
        intro v' w10 ho hu hfr
        have hg10 := GrowU.snoc hown9 hall9 hx9 hu hfr ho
        have hz10 := hu.size
        simp only [World.size_alloc] at hz10
        obtain ⟨va,vc,hv',_⟩ := ho.shape
        subst hv'
        have htb : ¬ ownB (.slice va (css9.length + 1) vc) (w.heap.size + 2) := fun h => by
          rcases hfr _ h with h | h
          · exact hnb _ (.inl (by omega)) h
          · simp only [World.size_alloc] at h;omega
        have hbt10 := (hMd.trans hu).blk_some hbt8 (hnb _ (by omega))
        simp (maxSteps:=1000000)(disch:=(first|omega|(simp only [qI,qJ,qK]<;>omega)|exact qL _)) only [go_sem,↓reduceIte,n0,reduceCtorEq,n1,n2,n3,n4,n5,i0,i1,i2,i3,i4,i5,i6,i7,h3,hbt10]
        repeat ((first | refine qA rfl ?_|refine qB ?_|refine qC rfl ?_|refine qD ?_|refine qE ?_|refine qF ?_|refine qG ?_|refine qH ?_);try simp (maxSteps:=1000000)(disch:=(first|omega|(simp only [qI,qJ,qK]<;>omega)|exact qL _)) only [go_sem,↓reduceIte,n0,reduceCtorEq,n1,n2,n3,n4,n5,i0,i1,i2,i3,i4,i5,i6,i7,h33])
        refine ⟨⟨j + 1,.slice va (css9.length + 1) vc,by omega,rfl,h32',h31,h2,h3,?_,?_,?_⟩,?_⟩
        · simp (maxSteps:=1000000)(disch:=(first|omega|(simp only [qI,qJ,qK]<;>omega)|exact qL _)) only [go_sem,↓reduceIte,n0,reduceCtorEq,n1,n2,n3,n4,n5,i0,i1,i2,i3,i4,i5,i6,i7,hbt10]
        · rw [hcat];exact hg10.upd ((Upd.refl _ _).wr _ _ (.inr rfl)) htb
        · refine Upd.wr ?_ _ _ (.inr rfl)
          exact hU6.more (((hE8.mono fun _ h => h.elim).trans hMd).trans hu) fun b hb h => by have := hg.above h;omega
        · simp only [RowKit.intOf];omega
      · have hjl : j = t.u.length := by omega
        subst hjl
        rw [List.take_length] at hg
        obtain ⟨va,vc,hv',_⟩ := hg.shape
        subst hv'
        have hb16 := hU6.blk_some hb15 (by omega)
        repeat ((first | refine qA rfl ?_|refine qB ?_|refine qC rfl ?_|refine qD ?_|refine qE ?_|refine qF ?_|refine qG ?_|refine qH ?_);try simp (maxSteps:=1000000)(disch:=(first|omega|(simp only [qI,qJ,qK]<;>omega)|exact qL _)) only [go_sem,↓reduceIte,n0,reduceCtorEq,n1,n2,n3,n4,n5,i0,i1,i2,i3,i4,i5,i6,i7,h33,h32',h2,h3,hbt,hb16,cellsAt_five])
        refine ⟨⟨_,rfl,?_⟩,hE06.wr _ _ (.inl (by omega))⟩
        have hTL6 := hTL.keep (hU6.keeps fun b _ hk e => by omega)
        have hTU6 := hg.tags (ok' := (fun b => okN ok w.heap.size b ∧ b ≠ w.heap.size + 1 ∧ b ≠ w.heap.size + 2)) (fun _ _ h => h) (fun b hb => ⟨.inr (by omega),by omega,by omega⟩)
        have hS6 := (hS.weaken (ok' := fun b => ok b ∧ b < w.heap.size) fun b h1 h2 => ⟨h2,h1⟩).keep (Ext.keeps hE06 _)
        have hU9 : Upd (fun b => b = w.heap.size + 1) w6 (wr w6 (w.heap.size + 1) 0 [.int .i64 t.n,.slice bS t.s.length cS,.bool t.null,.slice al t.l.length cl',.slice va t.u.length vc]) := (Upd.refl _ _).wr _ _ (.inr rfl)
        have ht : t = .mk t.n t.s t.null t.l t.u := by cases t;rfl
        rw [ht]
        exact TreeC.intro hn ((hS6.keep (hU9.keeps fun b _ hk e => by omega)).weaken fun b _ hk => .inl hk.1) ((hTL6.keep (hU9.keeps fun b _ hk e => hk.1.2.1 e)).weaken fun b _ hk => hk.1.1) ((hTU6.keep (hU9.keeps fun b _ hk e => hk.2.1 e)).weaken fun b _ hk => hk.1)

theorem got_fn {t : Tree} (h : Lists t) : ∀ (ok : Blocks) (ct : List Value) (w : World),TreeC ok w t ct → Fn Tryd.prog 9 #[.agg ct.toArray] w fun r w' => TreeRg ok w w' r t ∧ Ext w w' := by
  induction h with
  | mk hl hu he ih => exact got_step _ hl hu ih
end Ms

namespace Ms
open Go.World renaming size_alloc → qI
open Ms renaming size_wr → qJ,size_drew → qK,not_noB → qL
open W renaming seqR → qA,seq → qB,regR → qC,condK → qD,block → qE,skip → qF,ret → qG,exit → qH
open Nat renaming reduceEqDiff → n0,reduceAdd → n1,reduceMul → n2,reduceSub → n3,reduceLT → n4,reduceLeDiff → n5
open Int renaming reduceEq → i0,reduceLT → i1,reduceLE → i2,reduceNeg → i3,reduceAdd → i4,reduceSub → i5,reduceMul → i6,reduceToNat → i7
set_option maxRecDepth 8000
open Go Go.Proofs Go.Shelf
attribute [local congr] W_congr WPsq_congr WPp_congr optK_congr addrK_congr intK_congr boolK_congr sliceK_congr tupleK_congr funcK_congr Fn_congr rawK_congr takeK_congr stepK_congr convK_congr aggK_congr

def Plan.pre : Nat → Plan → Plan → Plan
  | k + 1,.take i r,d => .take i (Plan.pre k r d)
  | k + 1,.only i r,d => .only i (Plan.pre k r d)
  | _,_,d => d
def Plan.drop : Nat → Plan → Plan
  | k + 1,.take _ r => Plan.drop k r
  | k + 1,.only _ r => Plan.drop k r
  | _,p => p
theorem Plan.pre_drop : ∀ (k : Nat) (p : Plan),Plan.pre k p (Plan.drop k p) = p
  | 0,p => by cases p <;> rfl
  | k + 1,.take i r => congrArg (Plan.take i) (Plan.pre_drop k r)
  | k + 1,.only i r => congrArg (Plan.only i) (Plan.pre_drop k r)
  | k + 1,.done => rfl
  | k + 1,.last _ => rfl
  | k + 1,.two .. => rfl
theorem W.drawO {P : Program} {n id : Nat} {ops : Array Oper} {Q : Exit → Regs → World → Prop} {ρ : Regs} {w : World} (p : Plan) (k : Nat) (M : Nat → Prop) (hm : P.follows .mixedOrders = true)
    (hc : (Region.noSelect ops && fitsL n ops.toList && (p.ok ops (Array.replicate ops.size false) && Nat.ble p.len ops.size)) = true)
    (h : ∀ DD,DD = Plan.drop k p → WPp P ops M w.drew (Plan.pre k p DD) (Q .normal) ρ w.drew) : W P n (.region id ops true) Q ρ w := by
  have := h _ rfl
  rw [Plan.pre_drop] at this
  exact W.drawR p M hm hc this

set_option maxHeartbeats 2000000 in
theorem SameTree_step (t : Tree) (hs : t.s.length ≤ 32767) (hl : t.l.length ≤ 32767) (hu : t.u.length ≤ 32767) (hd : ∀ x ∈ t.u,x.2.length ≤ 32767)
    (hrec : ∀ i (h : i < t.l.length),∀ (ok : Blocks) (ca cb : List Value) (w : World),TreeC ok w t.l[i] ca → TreeC ok w t.l[i] cb → Fn Tryd.prog 8 #[.agg ca.toArray,.agg cb.toArray] w fun r w' => r = .bool true ∧ Ext w w')
    (ok : Blocks) (ca cb : List Value) (w : World) (ha : TreeC ok w t ca) (hb : TreeC ok w t cb) : Fn Tryd.prog 8 #[.agg ca.toArray,.agg cb.toArray] w fun r w' => r = .bool true ∧ Ext w w' := by
  obtain ⟨aS,aL,aU,rfl,hn,hSa,hLa,hUa⟩ := ha.inv
  obtain ⟨bS,bL,bU,rfl,_,hSb,hLb,hUb⟩ := hb.inv
  obtain ⟨xa,ya,rfl,_⟩ := hSa.shape
  obtain ⟨xb,yb,rfl,_⟩ := hSb.shape
  obtain ⟨pa,qa,rfl,_⟩ := SlR.shape hLa
  obtain ⟨pb,qb,rfl,_⟩ := SlR.shape hLb
  obtain ⟨ua,va,rfl,_⟩ := SlR.shape hUa
  obtain ⟨ub,vb,rfl,_⟩ := SlR.shape hUb
  have hE1 : Ext w ((w.alloc (.cells #[.int .i64 t.n,.slice xa t.s.length ya,.bool t.null,.slice pa t.l.length qa,.slice ua t.u.length va] 37)).alloc (.cells #[.int .i64 t.n,.slice xb t.s.length yb,.bool t.null,.slice pb t.l.length qb,.slice ub t.u.length vb] 37)) := Upd.alloc (Upd.alloc (Upd.refl _ _) _) _
  have ha1 : blk ((w.alloc (.cells #[.int .i64 t.n,.slice xa t.s.length ya,.bool t.null,.slice pa t.l.length qa,.slice ua t.u.length va] 37)).alloc (.cells #[.int .i64 t.n,.slice xb t.s.length yb,.bool t.null,.slice pb t.l.length qb,.slice ub t.u.length vb] 37)) w.heap.size = some (#[.int .i64 t.n,.slice xa t.s.length ya,.bool t.null,.slice pa t.l.length qa,.slice ua t.u.length va],37,(0,0)) := by simp (maxSteps:=1000000)(disch:=(first|omega|(simp only [qI,qJ,qK]<;>omega)|exact qL _)) only [go_sem,↓reduceIte,n0,reduceCtorEq,n1,n2,n3,n4,n5,i0,i1,i2,i3,i4,i5,i6,i7]
  have hb1 : blk ((w.alloc (.cells #[.int .i64 t.n,.slice xa t.s.length ya,.bool t.null,.slice pa t.l.length qa,.slice ua t.u.length va] 37)).alloc (.cells #[.int .i64 t.n,.slice xb t.s.length yb,.bool t.null,.slice pb t.l.length qb,.slice ub t.u.length vb] 37)) (w.heap.size + 1) = some (#[.int .i64 t.n,.slice xb t.s.length yb,.bool t.null,.slice pb t.l.length qb,.slice ub t.u.length vb],37,(0,0)) := by simp (maxSteps:=1000000)(disch:=(first|omega|(simp only [qI,qJ,qK]<;>omega)|exact qL _)) only [go_sem,↓reduceIte,n0,reduceCtorEq,n1,n2,n3,n4,n5,i0,i1,i2,i3,i4,i5,i6,i7]
  have hsame : decide (t.s = t.s) = true := decide_eq_true rfl
  refine fn_of_W Tryd.func8 rfl Tryd.results8 Tryd.ntmps8 rfl ?_
  refine W.seqR rfl ?_
  simp (maxSteps:=1000000)(disch:=(first|omega|(simp only [qI,qJ,qK]<;>omega)|exact qL _)) only [go_sem,↓reduceIte,n0,reduceCtorEq,n1,n2,n3,n4,n5,i0,i1,i2,i3,i4,i5,i6,i7]
  generalize ((w.alloc (.cells #[.int .i64 t.n,.slice xa t.s.length ya,.bool t.null,.slice pa t.l.length qa,.slice ua t.u.length va] 37)).alloc (.cells #[.int .i64 t.n,.slice xb t.s.length yb,.bool t.null,.slice pb t.l.length qb,.slice ub t.u.length vb] 37)) = w1 at *
  refine W.seq ?_
  refine W.seqO 18 rfl fun O DD hO hDD => ?_
  have hg5 : (O[5]?).bind (·.dst) = some 12 := by rw [hO];rfl
  have hg12 : (O[12]?).bind (·.dst) = some 19 := by rw [hO];rfl
  have hg20 : (O[20]?).bind (·.dst) = some 27 := by rw [hO];rfl
  have hg29 : (O[29]?).bind (·.dst) = some 36 := by rw [hO];rfl
  clear hO
  simp only [List.take_succ_cons,List.take_zero,List.cons_append,List.nil_append]
  simp (maxSteps:=1000000)(disch:=(first|omega|(simp only [qI,qJ,qK]<;>omega)|exact qL _)) only [go_sem,↓reduceIte,n0,reduceCtorEq,n1,n2,n3,n4,n5,i0,i1,i2,i3,i4,i5,i6,i7,ha1,hb1,hg5,hg12,hg20,hg29,beq_self_eq_true,bne_self_eq_false,ne_eq,not_true_eq_false,not_false_eq_true]
  refine (Same_fn (ok := ok) t.s t.s _ _ w1 (hSa.keep (hE1.keeps _)) (hSb.keep (hE1.keeps _)) (by omega)).mono ?_
  rintro _ w2 ⟨rfl,hE2⟩
  have ha2 := hE2.blk_some ha1 id
  have hb2 := hE2.blk_some hb1 id
  have hE02 := hE1.trans hE2
  rw [hDD]
  clear hDD
  simp only [List.drop_succ_cons,List.drop_zero]
  simp (maxSteps:=1000000)(disch:=(first|omega|(simp only [qI,qJ,qK]<;>omega)|exact qL _)) only [go_sem,↓reduceIte,n0,reduceCtorEq,n1,n2,n3,n4,n5,i0,i1,i2,i3,i4,i5,i6,i7,ha2,hb2,hsame,hg5,hg12,hg20,hg29,beq_self_eq_true,bne_self_eq_false,ne_eq,not_true_eq_false,not_false_eq_true]
  repeat ((first | refine qA rfl ?_|refine qB ?_|refine qC rfl ?_|refine qD ?_|refine qE ?_|refine qF ?_|refine qG ?_|refine qH ?_);try simp (maxSteps:=1000000)(disch:=(first|omega|(simp only [qI,qJ,qK]<;>omega)|exact qL _)) only [go_sem,↓reduceIte,n0,reduceCtorEq,n1,n2,n3,n4,n5,i0,i1,i2,i3,i4,i5,i6,i7,ha2,hb2,hsame])
  refine W.exitJ 0 (EndQ [(2,.pointer (some ⟨w.heap.size,0,none⟩)),(3,.pointer (some ⟨w.heap.size + 1,0,none⟩))] (fun w' => Ext w w' ∧ blk w' w.heap.size = some (#[.int .i64 t.n,.slice xa t.s.length ya,.bool t.null,.slice pa t.l.length qa,.slice ua t.u.length va],37,(0,0)) ∧ blk w' (w.heap.size + 1) = some (#[.int .i64 t.n,.slice xb t.s.length yb,.bool t.null,.slice pb t.l.length qb,.slice ub t.u.length vb],37,(0,0))))
    (W.loop (LoopL [(2,.pointer (some ⟨w.heap.size,0,none⟩)),(3,.pointer (some ⟨w.heap.size + 1,0,none⟩)),(47,.int .i64 t.l.length)] 48 (fun j w' => j ≤ t.l.length ∧ Ext w w' ∧ blk w' w.heap.size = some (#[.int .i64 t.n,.slice xa t.s.length ya,.bool t.null,.slice pa t.l.length qa,.slice ua t.u.length va],37,(0,0)) ∧ blk w' (w.heap.size + 1) = some (#[.int .i64 t.n,.slice xb t.s.length yb,.bool t.null,.slice pb t.l.length qb,.slice ub t.u.length vb],37,(0,0)))) (fun ρ _ => t.l.length - (RowKit.intOf (ρ 48)).toNat) ?_ ?_) ?_
  · exact ⟨(by simp (maxSteps:=1000000)(disch:=(first|omega|(simp only [qI,qJ,qK]<;>omega)|exact qL _)) only [go_sem,↓reduceIte,n0,reduceCtorEq,n1,n2,n3,n4,n5,i0,i1,i2,i3,i4,i5,i6,i7,Holds_nil,Holds_cons]),0,(by simp (maxSteps:=1000000)(disch:=(first|omega|(simp only [qI,qJ,qK]<;>omega)|exact qL _)) only [go_sem,↓reduceIte,n0,reduceCtorEq,n1,n2,n3,n4,n5,i0,i1,i2,i3,i4,i5,i6,i7];all_goals rfl),Nat.zero_le _,hE02,ha2,hb2⟩
  · rintro ρ w3 ⟨⟨h2,h3,hln,-⟩,j,hri,hj,hE3,ha3,hb3⟩
    by_cases hlt : j < t.l.length
    · obtain ⟨_,b1,o1,x1,vS1,vL1,vU1,e1,k1,hx1,hlt1,hxs1,hxe1,q11,q12,q13,hc1⟩ := TreesV.get (TreesV.keep hLa (hE3.keeps _)) hlt
      obtain ⟨_,b2,o2,x2,vS2,vL2,vU2,e2,k2,hx2,hlt2,hxs2,hxe2,q21,q22,q23,hc2⟩ := TreesV.get (TreesV.keep hLb (hE3.keeps _)) hlt
      subst e1
      subst e2
      repeat ((first | refine qA rfl ?_|refine qB ?_|refine qC rfl ?_|refine qD ?_|refine qE ?_|refine qF ?_|refine qG ?_|refine qH ?_);try simp (maxSteps:=1000000)(disch:=(first|omega|(simp only [qI,qJ,qK]<;>omega)|exact qL _)) only [go_sem,↓reduceIte,n0,reduceCtorEq,n1,n2,n3,n4,n5,i0,i1,i2,i3,i4,i5,i6,i7,h2,h3,hln,hri])
      have l1 := blk_lt ha3
      have l2 := blk_lt hb3
      refine W.drawR (.take 0 (.take 1 (.take 2 (.take 3 (.take 4 (.take 5 (.take 6 (.take 7 (.take 8 (.take 9 (.only 10 (.take 11 .done)))))))))))) NoB mixed (by kernel_rfl) ?_
      simp (maxSteps:=1000000)(disch:=(first|omega|(simp only [qI,qJ,qK]<;>omega)|exact qL _)) only [go_sem,↓reduceIte,n0,reduceCtorEq,n1,n2,n3,n4,n5,i0,i1,i2,i3,i4,i5,i6,i7,h2,h3,hln,hri,ha3,hb3,hx1,hxs1,hxe1,q11,q12,q13,hx2,hxs2,hxe2,q21,q22,q23,cellsAt_five,Int.toNat_natCast]
      refine (hrec j hlt ok _ _ w3.drew (hc1.keep (Ext.keeps ((Upd.refl _ _).drew) _)) (hc2.keep (Ext.keeps ((Upd.refl _ _).drew) _))).mono ?_
      rintro _ w4 ⟨rfl,hE4⟩
      refine ⟨hE4,?_⟩
      have hE34 : Ext w3 w4 := ((Upd.refl _ _).drew).trans hE4
      simp (maxSteps:=1000000)(disch:=(first|omega|(simp only [qI,qJ,qK]<;>omega)|exact qL _)) only [go_sem,↓reduceIte,n0,reduceCtorEq,n1,n2,n3,n4,n5,i0,i1,i2,i3,i4,i5,i6,i7,h2,h3,hln,hri]
      repeat ((first | refine qA rfl ?_|refine qB ?_|refine qC rfl ?_|refine qD ?_|refine qE ?_|refine qF ?_|refine qG ?_|refine qH ?_);try simp (maxSteps:=1000000)(disch:=(first|omega|(simp only [qI,qJ,qK]<;>omega)|exact qL _)) only [go_sem,↓reduceIte,n0,reduceCtorEq,n1,n2,n3,n4,n5,i0,i1,i2,i3,i4,i5,i6,i7,h2,h3,hln,hri])
      refine ⟨⟨(by simp (maxSteps:=1000000)(disch:=(first|omega|(simp only [qI,qJ,qK]<;>omega)|exact qL _)) only [go_sem,↓reduceIte,n0,reduceCtorEq,n1,n2,n3,n4,n5,i0,i1,i2,i3,i4,i5,i6,i7,Holds_nil,Holds_cons,h2,h3,hln,hri]),j + 1,(by simp (maxSteps:=1000000)(disch:=(first|omega|(simp only [qI,qJ,qK]<;>omega)|exact qL _)) only [go_sem,↓reduceIte,n0,reduceCtorEq,n1,n2,n3,n4,n5,i0,i1,i2,i3,i4,i5,i6,i7,hri];all_goals rfl),by omega,hE3.trans hE34,hE34.blk_some ha3 id,hE34.blk_some hb3 id⟩,?_⟩
      try simp (maxSteps:=1000000)(disch:=(first|omega|(simp only [qI,qJ,qK]<;>omega)|exact qL _)) only [go_sem,↓reduceIte,n0,reduceCtorEq,n1,n2,n3,n4,n5,i0,i1,i2,i3,i4,i5,i6,i7,hri]
      simp only [RowKit.intOf]
      omega
    · repeat ((first | refine qA rfl ?_|refine qB ?_|refine qC rfl ?_|refine qD ?_|refine qE ?_|refine qF ?_|refine qG ?_|refine qH ?_);try simp (maxSteps:=1000000)(disch:=(first|omega|(simp only [qI,qJ,qK]<;>omega)|exact qL _)) only [go_sem,↓reduceIte,n0,reduceCtorEq,n1,n2,n3,n4,n5,i0,i1,i2,i3,i4,i5,i6,i7,h2,h3,hln,hri])
      exact ⟨(by simp (maxSteps:=1000000)(disch:=(first|omega|(simp only [qI,qJ,qK]<;>omega)|exact qL _)) only [go_sem,↓reduceIte,n0,reduceCtorEq,n1,n2,n3,n4,n5,i0,i1,i2,i3,i4,i5,i6,i7,Holds_nil,Holds_cons,h2,h3,hln,hri]),hE3,ha3,hb3⟩
  rintro ρ w5 ⟨⟨h2,h3,-⟩,hE5,ha5,hb5⟩
  repeat ((first | refine qA rfl ?_|refine qB ?_|refine qC rfl ?_|refine qD ?_|refine qE ?_|refine qF ?_|refine qG ?_|refine qH ?_);try simp (maxSteps:=1000000)(disch:=(first|omega|(simp only [qI,qJ,qK]<;>omega)|exact qL _)) only [go_sem,↓reduceIte,n0,reduceCtorEq,n1,n2,n3,n4,n5,i0,i1,i2,i3,i4,i5,i6,i7,h2,h3,ha5,hb5])
  refine W.exitJ 2 (EndQ [(2,.pointer (some ⟨w.heap.size,0,none⟩)),(3,.pointer (some ⟨w.heap.size + 1,0,none⟩))] (fun w' => Ext w w' ∧ blk w' w.heap.size = some (#[.int .i64 t.n,.slice xa t.s.length ya,.bool t.null,.slice pa t.l.length qa,.slice ua t.u.length va],37,(0,0)) ∧ blk w' (w.heap.size + 1) = some (#[.int .i64 t.n,.slice xb t.s.length yb,.bool t.null,.slice pb t.l.length qb,.slice ub t.u.length vb],37,(0,0))))
    (W.loop (LoopL [(2,.pointer (some ⟨w.heap.size,0,none⟩)),(3,.pointer (some ⟨w.heap.size + 1,0,none⟩)),(66,.int .i64 t.u.length)] 67 (fun j w' => j ≤ t.u.length ∧ Ext w w' ∧ blk w' w.heap.size = some (#[.int .i64 t.n,.slice xa t.s.length ya,.bool t.null,.slice pa t.l.length qa,.slice ua t.u.length va],37,(0,0)) ∧ blk w' (w.heap.size + 1) = some (#[.int .i64 t.n,.slice xb t.s.length yb,.bool t.null,.slice pb t.l.length qb,.slice ub t.u.length vb],37,(0,0)))) (fun ρ _ => t.u.length - (RowKit.intOf (ρ 67)).toNat) ?_ ?_) ?_
  · exact ⟨(by simp (maxSteps:=1000000)(disch:=(first|omega|(simp only [qI,qJ,qK]<;>omega)|exact qL _)) only [go_sem,↓reduceIte,n0,reduceCtorEq,n1,n2,n3,n4,n5,i0,i1,i2,i3,i4,i5,i6,i7,Holds_nil,Holds_cons,h2,h3]),0,(by simp (maxSteps:=1000000)(disch:=(first|omega|(simp only [qI,qJ,qK]<;>omega)|exact qL _)) only [go_sem,↓reduceIte,n0,reduceCtorEq,n1,n2,n3,n4,n5,i0,i1,i2,i3,i4,i5,i6,i7,h2,h3];all_goals rfl),Nat.zero_le _,hE5,ha5,hb5⟩
  · rintro ρ w3 ⟨⟨h2,h3,hln,-⟩,j,hri,hj,hE3,ha3,hb3⟩
    by_cases hlt : j < t.u.length
    · obtain ⟨_,b1,o1,x1,v1,e1,k1,hx1,hlt1,hxs1,hxe1,q11,q12,q13,hv1,g1⟩ := TagsV.get (TagsV.keep hUa (hE3.keeps _)) hlt
      obtain ⟨_,b2,o2,x2,v2,e2,k2,hx2,hlt2,hxs2,hxe2,q21,q22,q23,hv2,g2⟩ := TagsV.get (TagsV.keep hUb (hE3.keeps _)) hlt
      subst e1
      subst e2
      have hdy := hd _ (List.getElem_mem hlt)
      generalize t.u[j] = y at *
      have hsy : decide (y.2 = y.2) = true := decide_eq_true rfl
      repeat ((first | refine qA rfl ?_|refine qB ?_|refine qC rfl ?_|refine qD ?_|refine qE ?_|refine qF ?_|refine qG ?_|refine qH ?_);try simp (maxSteps:=1000000)(disch:=(first|omega|(simp only [qI,qJ,qK]<;>omega)|exact qL _)) only [go_sem,↓reduceIte,n0,reduceCtorEq,n1,n2,n3,n4,n5,i0,i1,i2,i3,i4,i5,i6,i7,h2,h3,hln,hri])
      have l1 := blk_lt ha3
      have l2 := blk_lt hb3
      refine W.drawO (.take 0 (.take 1 (.take 2 (.take 3 (.take 4 (.take 5 (.take 6 (.take 7 (.take 8 (.take 9 (.take 10 (.take 11 (.take 12 (.take 13 (.take 14 (.take 15 (.take 16 (.take 17 (.take 18 (.take 19 (.take 20 (.take 21 (.take 22 (.take 23 (.take 24 (.take 25 (.only 26 (.take 27 (.take 28 .done))))))))))))))))))))))))))))) 14 NoB mixed (by kernel_rfl) fun DD hDD => ?_
      simp only [Plan.pre]
      simp (maxSteps:=1000000)(disch:=(first|omega|(simp only [qI,qJ,qK]<;>omega)|exact qL _)) only [go_sem,↓reduceIte,n0,reduceCtorEq,n1,n2,n3,n4,n5,i0,i1,i2,i3,i4,i5,i6,i7,h2,h3,hln,hri,ha3,hb3,hx1,hxs1,q11,q12,hx2,hxs2,q21,q22,Int.toNat_natCast,beq_self_eq_true,bne_self_eq_false,ne_eq,not_true_eq_false,not_false_eq_true]
      rw [hDD]
      simp only [Plan.drop]
      simp (maxSteps:=1000000)(disch:=(first|omega|(simp only [qI,qJ,qK]<;>omega)|exact qL _)) only [go_sem,↓reduceIte,n0,reduceCtorEq,n1,n2,n3,n4,n5,i0,i1,i2,i3,i4,i5,i6,i7,h2,h3,hln,hri,ha3,hb3,hx1,hxs1,q11,q12,hx2,hxs2,q21,q22,Int.toNat_natCast,beq_self_eq_true,bne_self_eq_false,ne_eq,not_true_eq_false,not_false_eq_true]
      refine (Same_fn (ok := ok) y.2 y.2 _ _ w3.drew (hv1.keep (Ext.keeps ((Upd.refl _ _).drew) _)) (hv2.keep (Ext.keeps ((Upd.refl _ _).drew) _)) (by omega)).mono ?_
      rintro _ w4 ⟨rfl,hE4⟩
      refine ⟨hE4,?_⟩
      have hE34 : Ext w3 w4 := ((Upd.refl _ _).drew).trans hE4
      simp (maxSteps:=1000000)(disch:=(first|omega|(simp only [qI,qJ,qK]<;>omega)|exact qL _)) only [go_sem,↓reduceIte,n0,reduceCtorEq,n1,n2,n3,n4,n5,i0,i1,i2,i3,i4,i5,i6,i7,h2,h3,hln,hri,hsy]
      repeat ((first | refine qA rfl ?_|refine qB ?_|refine qC rfl ?_|refine qD ?_|refine qE ?_|refine qF ?_|refine qG ?_|refine qH ?_);try simp (maxSteps:=1000000)(disch:=(first|omega|(simp only [qI,qJ,qK]<;>omega)|exact qL _)) only [go_sem,↓reduceIte,n0,reduceCtorEq,n1,n2,n3,n4,n5,i0,i1,i2,i3,i4,i5,i6,i7,h2,h3,hln,hri,hsy])
      refine ⟨⟨(by simp (maxSteps:=1000000)(disch:=(first|omega|(simp only [qI,qJ,qK]<;>omega)|exact qL _)) only [go_sem,↓reduceIte,n0,reduceCtorEq,n1,n2,n3,n4,n5,i0,i1,i2,i3,i4,i5,i6,i7,Holds_nil,Holds_cons,h2,h3,hln,hri]),j + 1,(by simp (maxSteps:=1000000)(disch:=(first|omega|(simp only [qI,qJ,qK]<;>omega)|exact qL _)) only [go_sem,↓reduceIte,n0,reduceCtorEq,n1,n2,n3,n4,n5,i0,i1,i2,i3,i4,i5,i6,i7,hri];all_goals rfl),by omega,hE3.trans hE34,hE34.blk_some ha3 id,hE34.blk_some hb3 id⟩,?_⟩
      try simp (maxSteps:=1000000)(disch:=(first|omega|(simp only [qI,qJ,qK]<;>omega)|exact qL _)) only [go_sem,↓reduceIte,n0,reduceCtorEq,n1,n2,n3,n4,n5,i0,i1,i2,i3,i4,i5,i6,i7,hri]
      simp only [RowKit.intOf]
      omega
    · repeat ((first | refine qA rfl ?_|refine qB ?_|refine qC rfl ?_|refine qD ?_|refine qE ?_|refine qF ?_|refine qG ?_|refine qH ?_);try simp (maxSteps:=1000000)(disch:=(first|omega|(simp only [qI,qJ,qK]<;>omega)|exact qL _)) only [go_sem,↓reduceIte,n0,reduceCtorEq,n1,n2,n3,n4,n5,i0,i1,i2,i3,i4,i5,i6,i7,h2,h3,hln,hri])
      exact ⟨(by simp (maxSteps:=1000000)(disch:=(first|omega|(simp only [qI,qJ,qK]<;>omega)|exact qL _)) only [go_sem,↓reduceIte,n0,reduceCtorEq,n1,n2,n3,n4,n5,i0,i1,i2,i3,i4,i5,i6,i7,Holds_nil,Holds_cons,h2,h3,hln,hri]),hE3,ha3,hb3⟩
  rintro ρ w6 ⟨⟨h2,h3,-⟩,hE6,ha6,hb6⟩
  repeat ((first | refine qA rfl ?_|refine qB ?_|refine qC rfl ?_|refine qD ?_|refine qE ?_|refine qF ?_|refine qG ?_|refine qH ?_);try simp (maxSteps:=1000000)(disch:=(first|omega|(simp only [qI,qJ,qK]<;>omega)|exact qL _)) only [go_sem,↓reduceIte,n0,reduceCtorEq,n1,n2,n3,n4,n5,i0,i1,i2,i3,i4,i5,i6,i7,h2,h3])
  all_goals exact hE6

theorem SameTree_fn {t : Tree} (h : Small 32767 t) : ∀ (ok : Blocks) (ca cb : List Value) (w : World),TreeC ok w t ca → TreeC ok w t cb → Fn Tryd.prog 8 #[.agg ca.toArray,.agg cb.toArray] w fun r w' => r = .bool true ∧ Ext w w' := by
  induction h with
  | mk hs hl hu he hd ih => exact SameTree_step _ hs hl hu hd ih
end Ms

namespace Ms
open Go

theorem all3_of {G : List Fld → Tree → Prop} {n : Int} {s : List UInt8} {nl : Bool} {u : List TagD} : ∀ {fs : List Fld} {l : List Tree} (pre : List Tree),GoodL G (.mk n s nl (pre ++ l) u) fs pre.length → l.length = fs.length → All3 (GoodF G) fs l
  | [],[],_,_,_ => .nil
  | f :: fs,x :: l,pre,h,hl => by
    refine .cons ?_ ?_
    · have : Tree.at (.mk n s nl (pre ++ x :: l) u) pre.length = x := by simp [Tree.at,Tree.l]
      have h1 := h.1
      rw [this] at h1;exact h1
    · refine all3_of (n := n) (s := s) (nl := nl) (u := u) (pre ++ [x]) ?_ (by simpa using hl)
      have h2 := h.2
      simpa using h2
theorem All3.setAt {α β : Type} {R : α → β → Prop} : ∀ {l : List α} {m : List β} {i : Nat} {a : α} {b : β},All3 R l m → l[i]? = some a → R a b → All3 R l (m.set i b)
  | _,_,_,_,_,.nil,h,_ => by simp at h
  | _,_,0,_,_,.cons h t,h1,h2 => by simp at h1;subst h1;exact .cons h2 t
  | _,_,i + 1,_,_,.cons h t,h1,h2 => .cons h (All3.setAt t (by simpa using h1) h2)
theorem tagAt_get {k : Nat} : ∀ {fs : List Fld} {i j : Nat} {f : Fld},tagAt fs i k = some (j,f) → i ≤ j ∧ fs[j - i]? = some f
  | [],_,_,_,h => by cases h
  | g :: fs,i,j,f,h => by
    rw [tagAt] at h
    split at h
    · simp only [Option.some.injEq,Prod.mk.injEq] at h
      obtain ⟨rfl,rfl⟩ := h
      exact ⟨Nat.le_refl _,by simp⟩
    · have ⟨h1,h2⟩ := tagAt_get h
      refine ⟨by omega,?_⟩
      rw [show j - i = (j - (i + 1)) + 1 by omega]
      simpa using h2
theorem tagX_get {k : Nat} {fs : List Fld} {j : Nat} {f : Fld} (h : tagX fs k = some (j,f)) : fs[j]? = some f := by
  have := (tagAt_get h).2
  simpa using this
theorem rdF_good {d : Nat} {v : Int} {flex : Bool} {fs : List Fld} (h : okDf (d + 1) fs = true) {f : Fld} (hm : f ∈ fs) (st : St) (hst : stLen st ≤ 32766) : GoodF (GoodP d) f (rdF (rdP d v flex) v flex f st).1 := by
  have hf := okDf_f h hm
  unfold GoodF rdF
  by_cases h11 : f.kind = 11
  · rw [if_pos h11,if_pos h11]
    unfold rdList
    have hz := rdALen_len flex st
    have hg := rdMany_good (R := Good1 (GoodP d) f.of f.sub) (r := rd1 (rdP d v flex) f.of f.sub false flex) (rd1_shr (rdP_shr v flex d) _ _ _ _)
      (fun st hst => rd1_good hst (fun h10 => rdP_good v flex d f.sub (hf.2 (.inr h10)) st hst) (fun _ => (rdP_sn v flex d f.sub st).1) (fun _ => (rdP_sn v flex d f.sub st).2)) (rdALen flex st).1.toNat (rdALen flex st).2 (Nat.le_trans (rdALen_shr flex st) hst)
    exact ⟨by rw [show Tree.l (.mk 0 [] _ (rdMany _ _ _).1 []) = (rdMany _ _ _).1 from rfl,hg.1];omega,hg.2⟩
  · rw [if_neg h11,if_neg h11]
    split
    · rename_i h10
      exact rdOpt_good h10.1 hst fun st hst => rdP_good v flex d f.sub (hf.2 (.inl h10.1)) st hst
    exact rd1_good hst (fun h10 => rdP_good v flex d f.sub (hf.2 (.inl h10)) st hst) (fun _ => (rdP_sn v flex d f.sub st).1) (fun _ => (rdP_sn v flex d f.sub st).2)
theorem rdL_len {pt : List Fld → St → Tree × St} {dp : List Fld → Tree} {v : Int} {flex : Bool} : ∀ (fs : List Fld) (st : St),(rdL pt dp v flex fs st).1.length = fs.length
  | [],_ => rfl
  | f :: fs,st => by
    rw [rdL]
    split
    · simp [rdL_len fs]
    · simp [rdL_len fs]
section
variable {pt : List Fld → St → Tree × St} {v : Int} {flex : Bool} {fs : List Fld}
theorem rdTg_dead : ∀ (n : Nat) (xs : List Tree) (u : List TagD),u.any (fun x => x.1 == 0) = true → (rdTg pt v flex fs n xs u none).1.2.length = u.length
  | 0,_,_,_ => rfl
  | n + 1,xs,u,h => by
    rw [rdTg]
    split
    · split
      · rfl
      · exact rdTg_dead n _ u h
    · have := tagPut_has (u := u) (y := (0,[])) h
      rw [show rdTag u none = (tagPut u (0,[]),none) from rfl]
      rw [rdTg_dead n _ _ this.2,this.1]
theorem rdTg_len0 : ∀ (n : Nat) (xs : List Tree) (u : List TagD),(rdTg pt v flex fs n xs u none).1.2.length ≤ u.length + 1
  | 0,_,_ => by simp [rdTg]
  | n + 1,xs,u => by
    rw [rdTg]
    split
    · split
      · simp
      · exact rdTg_len0 n _ u
    · rw [show rdTag u none = (tagPut u (0,[]),none) from rfl,rdTg_dead n _ _ (tagPut_any u (0,[]))]
      exact tagPut_len u (0,[])
theorem rdTg_len : ∀ (n : Nat) (xs : List Tree) (u : List TagD) (st : St),(rdTg pt v flex fs n xs u st).1.2.length ≤ u.length + stLen st + 1
  | 0,xs,u,st => by simp only [rdTg];omega
  | n + 1,xs,u,none => Nat.le_trans (rdTg_len0 _ _ _) (by omega)
  | n + 1,xs,u,some s => by
    rw [stLen_some]
    by_cases hk : (rdUv (some s)).2 = none
    · rw [rdTg]
      have h1 : rdTag u (some s) = (tagPut u (0,[]),none) := by
        unfold rdTag;rw [hk,rdUv_fail hk];rfl
      split
      · split
        · simp only;omega
        · rw [hk]
          refine Nat.le_trans (rdTg_len0 _ _ _) (by omega)
      · rw [h1,rdTg_dead n _ _ (tagPut_any u (0,[]))]
        have := tagPut_len u (0,[])
        omega
    · have h2 : stLen (rdSpan ((rdUv (rdUv (some s)).2).1 : Nat) (rdUv (rdUv (some s)).2).2).2 + 1 ≤ s.length := Nat.le_trans (Nat.succ_le_succ (Nat.le_trans (rdSpan_shr _ _) (rdUv_shr _))) (rdUv_less hk)
      rw [rdTg]
      split
      · split
        · simp only;omega
        · exact Nat.le_trans (rdTg_len n _ u _) (by omega)
      · have ih := rdTg_len n xs (rdTag u (some s)).1 (rdTag u (some s)).2
        have h3 : (rdTag u (some s)).1.length ≤ u.length + 1 := tagPut_len _ _
        have h4 : stLen (rdTag u (some s)).2 + 1 ≤ s.length := h2
        omega
end
theorem tagPut_small {u : List TagD} {k M : Nat} {o : List UInt8} (h2 : ∀ y ∈ u,y.2.length ≤ M) (hl : o.length ≤ M) : ∀ y ∈ tagPut u (k,o),y.2.length ≤ M := by
  intro y hy
  unfold tagPut at hy
  split at hy
  · obtain ⟨x,hx,rfl⟩ := List.mem_map.1 hy
    split
    · exact hl
    · exact h2 x hx
  · rcases List.mem_append.1 hy with hy | hy
    · exact h2 y hy
    · simp only [List.mem_singleton] at hy;subst hy;exact hl
theorem rdTg_good {d : Nat} {v : Int} {flex : Bool} {fs : List Fld} (h : okDf (d + 1) fs = true) : ∀ (n : Nat) (xs : List Tree) (u : List TagD) (st : St),stLen st ≤ 32766 → All3 (GoodF (GoodP d)) fs xs → (u.map (·.1)).Nodup → (∀ y ∈ u,y.2.length ≤ 32766) →
    All3 (GoodF (GoodP d)) fs (rdTg (rdP d v flex) v flex fs n xs u st).1.1 ∧ ((rdTg (rdP d v flex) v flex fs n xs u st).1.2.map (·.1)).Nodup ∧ ∀ y ∈ (rdTg (rdP d v flex) v flex fs n xs u st).1.2,y.2.length ≤ 32766
  | 0,xs,u,st,_,h1,h2,h3 => ⟨h1,h2,h3⟩
  | n + 1,xs,u,st,hst,h1,h2,h3 => by
    have hl : (rdSpan ((rdUv (rdUv st).2).1 : Nat) (rdUv (rdUv st).2).2).1.length ≤ 32766 := Nat.le_trans (rdSpan_len _ _) (Nat.le_trans (rdUv_shr _) (Nat.le_trans (rdUv_shr _) hst))
    have hs : stLen (rdSpan ((rdUv (rdUv st).2).1 : Nat) (rdUv (rdUv st).2).2).2 ≤ 32766 := Nat.le_trans (rdSpan_shr _ _) (Nat.le_trans (rdUv_shr _) (Nat.le_trans (rdUv_shr _) hst))
    rw [rdTg]
    split
    · next p hp =>
      split
      · exact ⟨h1,h2,h3⟩
      · have hg := tagX_get (j := p.1) (f := p.2) hp
        exact rdTg_good h n _ u _ hs (h1.setAt hg (rdF_good h (List.mem_of_getElem? hg) _ hl)) h2 h3
    · exact rdTg_good h n xs _ _ (Nat.le_trans (rdTag_shr u st) hst) h1 (tagPut_keys _ _ h2) (tagPut_small h3 hl)
theorem rdM_good (v : Int) (flex : Bool) (d : Nat) (fs : List Fld) (h : okDf (d + 1) fs = true) (st : St) (hst : stLen st ≤ 32766) : GoodP (d + 1) fs (rdM d v flex fs st).1 := by
  cases flex with
  | false => rw [rdM_f];exact rdP_good v false (d + 1) fs h st hst
  | true =>
    have h0 := (rdP_good v true (d + 1) fs h st hst).1
    rw [rdP,if_pos rfl] at h0
    have h1 : All3 (GoodF (GoodP d)) fs (rdL (rdP d v true) (dfP d) v true fs st).1 := all3_of [] h0 (rdL_len _ _)
    have hs := rdL_shr (dp := dfP d) (rdP_shr v true d) v true fs st
    have hq : stLen (rdUv (rdL (rdP d v true) (dfP d) v true fs st).2).2 ≤ 32766 := Nat.le_trans (rdUv_shr _) (Nat.le_trans hs hst)
    have h2 := rdTg_good (v := v) (flex := true) h (rdUv (rdL (rdP d v true) (dfP d) v true fs st).2).1 _ [] _ hq h1 (by simp) (by simp)
    have h3 := rdTg_len (pt := rdP d v true) (v := v) (flex := true) (fs := fs) (rdUv (rdL (rdP d v true) (dfP d) v true fs st).2).1 (rdL (rdP d v true) (dfP d) v true fs st).1 [] (rdUv (rdL (rdP d v true) (dfP d) v true fs st).2).2
    unfold rdM
    rw [if_pos rfl]
    refine ⟨goodL_of (G := GoodP d) [] h2.1,?_,h2.2.1,fun y hy => Nat.le_trans (h2.2.2 y hy) (by decide)⟩
    simp only [List.length_nil] at h3
    show (rdTgs _ _ _ _ _ _).1.2.length ≤ _
    unfold rdTgs
    omega
end Ms

