/- A part of the proof: see the last text. -/
import Derived.OrdersHeld
import Derived.ScopeJumps
import Derived.Laws.World
import Derived.Laws.Sem
import Derived.Below
set_option linter.unusedSimpArgs false
set_option linter.unusedVariables false
namespace Ms
open Go
universe u

abbrev Regs := Nat→Value

theorem nr {α:Sort u} {a b:α} (h:a=b):a=b:=by cases h;rfl

def set (ρ:Regs) (d:Nat) (v:Value):Regs:=fun i=>if i=d then v else ρ i

theorem set_apply (ρ:Regs) (d:Nat) (v:Value) (i:Nat):set ρ d v i=if i=d then v else ρ i:=nr rfl
def put (ρ:Regs):Option Nat→Value→Regs
 | some d,v=>set ρ d v
 | none,_=>ρ
theorem put_some (ρ:Regs) (d:Nat) (v:Value):put ρ (some d) v=set ρ d v:=nr rfl
theorem put_none (ρ:Regs) (v:Value):put ρ none v=ρ:=nr rfl

def ev (ρ:Regs):Operand→Value
 | .tmp t=>ρ t
 | .const v=>v
 | .global g=>.pointer (some ⟨g,0,none⟩)
 | .func f=>.func (.func f) #[] #[]
theorem ev_tmp (ρ:Regs) (t:Nat):ev ρ (.tmp t)=ρ t:=nr rfl
theorem ev_const (ρ:Regs) (v:Value):ev ρ (.const v)=v:=nr rfl
theorem ev_global (ρ:Regs) (g:Nat):ev ρ (.global g) = .pointer (some ⟨g,0,none⟩):=nr rfl
theorem ev_func (ρ:Regs) (f:Nat):ev ρ (.func f) = .func (.func f) #[] #[]:=nr rfl

def regs (a:Act):Regs:=fun i=>a.tmps.getD i undef

theorem eval_regs (a:Act):a.eval=ev (regs a):=by funext x;cases x<;>rfl

theorem regs_put (a:Act) (d:Option Nat) (v:Value) (h:∀ t,d=some t→t < a.tmps.size):regs (a.put d v)=put (regs a) d v:=by
 cases d with
 | none=>rfl
 | some t =>
  have ht:=h t rfl
  funext i
  simp only [regs,Act.put,put,set]
  by_cases hi:i=t
  ·subst hi;simp [ht]
  ·simp [hi,Array.getElem?_setIfInBounds_ne (Ne.symm hi)]

theorem size_put (a:Act) (d:Option Nat) (v:Value):(a.put d v).tmps.size=a.tmps.size:=by
 cases d<;>simp [Act.put]
theorem defers_put (a:Act) (d:Option Nat) (v:Value):(a.put d v).defers=a.defers:=by
 cases d<;>rfl

def Fn (P:Program) (f:Nat) (args:Array Value) (w:World) (R:Value→World→Prop):Prop :=
 Calls P f args w fun e w'=>match e with|.returned v=>R v w'|_=>False

theorem Fn.mono {P:Program} {f:Nat} {args:Array Value} {w:World} {R R':Value→World→Prop} (h:Fn P f args w R) (hr:∀ v w',R v w'→R' v w'):Fn P f args w R' :=
 Calls.mono h fun e w' he=>by cases e<;>first|exact hr _ _ he|exact he

def WPr (P:Program) (dst:Option Nat) (ρ:Regs) (K:Regs→World→Prop):Result Next→Prop
 | .ok (.value v) w'=>K (put ρ dst v) w'
 | .ok .skip w'=>K (put ρ dst undef) w'
 | .ok (.enter f args) w'=>Fn P f args w' fun v w''=>K (put ρ dst v) w''
 | .ok (.row row args) w'=>Rows P row args w' fun v w''=>K (put ρ dst v) w''
 | _=>False

def WPop (P:Program) (o:Oper) (ρ:Regs) (w:World) (K:Regs→World→Prop):Prop :=
 WPr P o.dst ρ K ((execOp (ev ρ) o).run P w)

def wantedR (ops:Array Oper) (o:Oper) (ρ:Regs):Bool :=
 match o.guard with
 | none=>true
 | some (j,b)=>match (ops[j]?).bind (·.dst) with
  | some t=>match ρ t with
   | .bool c=>c == b
   | _=>false
  | none=>false

def WPseq (P:Program) (ops:Array Oper):List Oper→(Regs→World→Prop)→Regs→World→Prop
 | [],K,ρ,w=>K ρ w
 | o :: os,K,ρ,w=>if wantedR ops o ρ then WPop P o ρ w (WPseq P ops os K) else WPseq P ops os K (put ρ o.dst undef) w

def fitsL (n:Nat):List Oper→Bool
 | []=>true
 | o :: os=>(match o.dst with|some d=>Nat.blt d n|none=>true) && fitsL n os

def liftQ (n:Nat) (Q:Exit→Regs→World→Prop):Exit→Act→World→Prop
 | .panic _,_,_=>False
 | .outgrown,_,_=>False
 | e,a,w=>a.tmps.size=n∧a.defers=[]∧Q e (regs a) w

def W (P:Program) (n:Nat) (c:Code) (Q:Exit→Regs→World→Prop) (ρ:Regs) (w:World):Prop :=
 ∀ a:Act,a.tmps.size=n→a.defers=[]→regs a=ρ→c.wp P (liftQ n Q) a w

theorem wanted_regs (ops:Array Oper) (o:Oper) (a:Act):Region.wanted o (yielded ops a.tmps)=wantedR ops o (regs a):=by
 unfold Region.wanted wantedR
 cases o.guard with
 | none=>rfl
 | some jb =>
  obtain ⟨j,b⟩:=jb
  simp only [yielded]
  cases hd:(ops[j]?).bind (·.dst) with
  | none=>simp
  | some t =>
   simp only [Option.bind_some,regs]
   cases ht:a.tmps[t]? with
   | none =>
    have hv:a.tmps.getD t undef=undef:=by simp [ht]
    rw [hv];simp [undef]
   | some v =>
    have hv:a.tmps.getD t undef=v:=by simp [ht]
    rw [hv]
    cases v<;>simp

section
variable {P : Program} {n:Nat} {Q:Exit→Regs→World→Prop}

theorem wp_of_WPr {o:Oper} {K:Regs→World→Prop} {K':Act→World→Prop} {a:Act} {r:Result Next} {Q':Exit→Act→World→Prop}
  (hn:a.tmps.size=n) (hd:a.defers=[]) (hfit:∀ t,o.dst=some t→t < n)
  (hK:∀ a w,a.tmps.size=n→a.defers=[]→K (regs a) w→K' a w)
  (h:WPr P o.dst (regs a) K r):o.upon P a K' Q' r:=by
 have step:∀ v w',K (put (regs a) o.dst v) w'→K' (a.put o.dst v) w':=fun v w' hk =>
  hK _ _ (by rw [size_put];exact hn) (by rw [defers_put];exact hd) (by rw [regs_put a o.dst v (fun t ht=>hn ▸ hfit t ht)];exact hk)
 cases r with
 | halt x w'=>exact h.elim
 | ok x w' =>
  cases x<;>first|exact step _ _ h|exact (h:False).elim|skip
  case enter f args =>
   refine Calls.mono h fun e w'' he => ?_
   cases e with
   | returned v=>exact step _ _ he
   | panicked c=>exact he.elim
   | outgrown=>exact he.elim
  case row row args=>exact Rows.mono h fun v w'' he=>step _ _ he

theorem wpOps_of_seq (ops:Array Oper):∀ (k:Nat) (os:List Oper),ops.toList.drop k=os→∀ (a:Act) (w:World),
  a.tmps.size=n→a.defers=[]→fitsL n os=true→WPseq P ops os (Q .normal) (regs a) w →
  wpOps P ops (liftQ n Q) (List.range' k os.length) a w:=by
 intro k os
 induction os generalizing k with
 | nil=>intro _ a w hn hd _ h;exact ⟨hn,hd,h⟩
 | cons o os ih =>
  intro hk a w hn hd hf h
  have hget:ops[k]? = some o:=by
   have:(ops.toList.drop k)[0]? = some o:=by rw [hk];rfl
   simpa using this
  have hrest:ops.toList.drop (k+1)=os:=by
   have:=congrArg List.tail hk
   simpa using this
  simp only [fitsL,Bool.and_eq_true] at hf
  have hfit:∀ t,o.dst=some t→t < n:=fun t ht=>by
   have:=hf.1;rw [ht] at this;simpa [Nat.blt_eq] using this
  simp only [List.length_cons,List.range'_succ,wpOps,hget]
  simp only [WPseq] at h
  rw [wanted_regs]
  by_cases hw:wantedR ops o (regs a)=true
  ·rw [if_pos hw] at h
   rw [if_pos hw]
   refine .inl ?_
   unfold Oper.wp
   rw [eval_regs]
   exact wp_of_WPr hn hd hfit (fun a w hn hd hk=>ih (k+1) hrest a w hn hd hf.2 hk) h
  ·rw [if_neg hw] at h
   rw [if_neg hw]
   refine ih (k+1) hrest _ w (by rw [size_put];exact hn) (by rw [defers_put];exact hd) hf.2 ?_
   rw [regs_put a o.dst undef (fun t ht=>hn ▸ hfit t ht)]
   exact h

theorem W.region {id:Nat} {ops:Array Oper} {ρ:Regs} {w:World} (hf:fitsL n ops.toList=true)
  (h:WPseq P ops ops.toList (Q .normal) ρ w):W P n (.region id ops false) Q ρ w:=by
 intro a hn hd hr
 subst hr
 refine wp_region ?_
 have:=wpOps_of_seq (P:=P) (Q:=Q) ops 0 ops.toList (by simp) a w hn hd hf h
 simpa [List.range_eq_range'] using this

/-! ### Regions that draw their order -/

inductive Plan where
 | done
 | take (i:Nat) (r:Plan)
 | only (i:Nat) (r:Plan)
 | last (i:Nat)
 | two (i:Nat) (r:Plan) (j:Nat) (s:Plan)

def reach (ops:Array Oper):Nat→Nat→Nat→Bool
 | 0,_,_=>false
 | n+1,i,j=>match ops[i]? with
  | some o=>(o.after.any fun e=>Region.binds .any e && e.on == j) || (o.after.any fun e=>Region.binds .any e && reach ops n e.on j)
  | none=>false
def Closed (ops:Array Oper) (listed:Array Bool):Prop:=∀ k o,ops[k]? = some o→listed.getD k false=true→∀ e∈o.after,Region.binds .any e=true→listed.getD e.on false=true
theorem reach_not {ops:Array Oper} {listed:Array Bool} (hcl:Closed ops listed) {i:Nat} (hi:listed.getD i false=false) :
  ∀ (n k:Nat) (o:Oper),ops[k]? = some o→(∀ e∈o.after,Region.binds .any e=true→listed.getD e.on false=true)→reach ops n k i=false
 | 0,_,_,_,_=>rfl
 | n+1,k,o,ho,hall=>by
  simp only [reach,ho,Bool.or_eq_false_iff]
  constructor
  ·rw [Bool.eq_false_iff]
   intro h
   simp only [Array.any_eq_true',Bool.and_eq_true,beq_iff_eq] at h
   obtain ⟨e,he,hb,ho⟩:=h
   have:=hall e he hb
   rw [ho,hi] at this;cases this
  ·rw [Bool.eq_false_iff]
   intro h
   simp only [Array.any_eq_true',Bool.and_eq_true] at h
   obtain ⟨e,he,hb,hr⟩:=h
   have hl:=hall e he hb
   cases ho':ops[e.on]? with
   | none=>cases n<;>simp [reach,ho'] at hr
   | some o' =>
    rw [reach_not hcl hi n e.on o' ho' (hcl _ _ ho' hl)] at hr
    cases hr
theorem Closed.set {ops:Array Oper} {listed:Array Bool} (h:Closed ops listed) {j:Nat} {oj:Oper} (hj:ops[j]? = some oj) (hall:∀ e∈oj.after,Region.binds .any e=true→listed.getD e.on false=true):Closed ops (listed.setIfInBounds j true):=by
 intro k o ho hl e he hb
 by_cases hjk:j=k
 ·subst hjk
  rw [hj] at ho;cases ho
  exact getD_set_true (hall e he hb)
 ·rw [getD_set_ne false hjk] at hl
  exact getD_set_true (h k o ho hl e he hb)
theorem Closed.start (ops:Array Oper):Closed ops (Array.replicate ops.size false):=by
 intro k o ho hl
 rcases Nat.lt_or_ge k ops.size with h|h
 ·simp [h] at hl
 ·rw [Array.getElem?_eq_none h] at ho;cases ho
def waitsAll (ops:Array Oper) (i:Nat):Bool :=
 (List.range ops.size).all fun j=>j == i || reach ops 3 i j
theorem waitsAll_not {ops:Array Oper} {i j:Nat} {oj:Oper} {listed:Array Bool} (hcl:Closed ops listed) (hi:i < ops.size) (hji:j≠i) (hoj:ops[j]? = some oj) (hli:listed.getD i false=false) (hall:∀ e∈oj.after,Region.binds .any e=true→listed.getD e.on false=true):waitsAll ops j=false:=by
 cases h:waitsAll ops j with
 | false=>rfl
 | true =>
  exfalso
  have h1:=List.all_eq_true.1 h i (List.mem_range.2 hi)
  rw [reach_not hcl hli 3 j oj hoj hall] at h1
  simp only [Bool.or_false,beq_iff_eq] at h1
  exact hji h1.symm

def wpAnyN (P:Program) (ops:Array Oper) (Q:Exit→Act→World→Prop) (S:World→Prop):Nat→Array Bool→Act→World→Prop
 | 0,listed,a,w=>Region.ready .any ops listed=[]∧Q .normal a w
 | fuel+1,listed,a,w =>
  (Region.ready .any ops listed=[]→Q .normal a w) ∧
  ∀ i∈Region.ready .any ops listed,wpOp P ops Q i (fun a' w'=>(waitsAll ops i=true∨S w')∧wpAnyN P ops Q S fuel (listed.setIfInBounds i true) a' w') a w
theorem wpAny_of_N {ops:Array Oper} {Q:Exit→Act→World→Prop} {S:World→Prop}:∀ (fuel:Nat) (listed:Array Bool) (a:Act) (w:World),wpAnyN P ops Q S fuel listed a w→wpAny P .any ops Q fuel listed a w
 | 0,_,_,_,h=>h
 | fuel+1,_,_,_,h=>⟨h.1,fun i hi=>wpOp_mono (fun a' w' h'=>wpAny_of_N fuel _ a' w' h'.2) (h.2 i hi)⟩
theorem wpAnyN_first {ops:Array Oper} {Q:Exit→Act→World→Prop} {S:World→Prop} {i:Nat} {oi:Oper} {v:Value} (hi:ops[i]? = some oi) (hsel:∀ (j:Nat) (o:Oper) cs b,ops[j]? = some o→o.op≠.select cs b)
  (hQ:∀ c a w,Q (.panic c) (a.put oi.dst v) w→Q (.panic c) a w) :
  ∀ (fuel:Nat) (listed:Array Bool) (a:Act) (w:World),Closed ops listed →
   (∀ j oj,ops[j]? = some oj→j≠i→listed.getD j true=false→(∀ e∈oj.after,Region.binds .any e=true→e.on≠i)→oi.apart ops oj=true) →
   i∈Region.ready .any ops listed→YieldsIf P ops S oi v a→S w →
   wpAnyN P ops Q S fuel (listed.setIfInBounds i true) (a.put oi.dst v) w→wpAnyN P ops Q S (fuel+1) listed a w:=by
 intro fuel
 have his:i < ops.size:=by
  rcases Nat.lt_or_ge i ops.size with h|h
  ·exact h
  ·rw [Array.getElem?_eq_none h] at hi;cases hi
 induction fuel with
 | zero =>
  intro listed a w _ _ hr hy hS H
  refine ⟨fun h=>(by rw [h] at hr;cases hr),fun j hj => ?_⟩
  by_cases hji:j=i
  ·subst hji;exact hy.wpOp hi hS ⟨.inr hS,H⟩
  ·have:=ready_mono hj hji
   rw [H.1] at this
   cases this
 | succ fuel ih =>
  intro listed a w hcl hfree hr hy hS H
  refine ⟨fun h=>(by rw [h] at hr;cases hr),fun j hj => ?_⟩
  by_cases hji:j=i
  ·subst hji;exact hy.wpOp hi hS ⟨.inr hS,H⟩
  ·have h1:=H.2 j (ready_mono hj hji)
   obtain ⟨hjun,oj,hoj,hall⟩:=mem_ready.1 hj
   have hnot:∀ e∈oj.after,Region.binds .any e=true→e.on≠i:=fun e he hb heq=>by
    have h1:=hall e he hb
    have h0:=(mem_ready.1 hr).1
    rw [heq] at h1
    rcases Nat.lt_or_ge i listed.size with h'|h'
    ·simp [h'] at h0 h1;rw [h0] at h1;cases h1
    ·simp [Array.getElem?_eq_none h'] at h1
   have hli:listed.getD i false=false:=by
    have h0:=(mem_ready.1 hr).1
    rcases Nat.lt_or_ge i listed.size with h'|h'
    ·simp [h'] at h0 ⊢;exact h0
    ·simp [Array.getElem?_eq_none h'] at h0
   have hnw:=waitsAll_not hcl his hji hoj hli hall
   have h2:=wpOp_putIf hoj (hfree j oj hoj hji hjun hnot) (fun cs b=>hsel i oi cs b hi) (fun cs b=>hsel j oj cs b hoj) hQ hy h1
   have hfree':∀ k ok,ops[k]? = some ok→k≠i→(listed.setIfInBounds j true).getD k true=false →
     (∀ e∈ok.after,Region.binds .any e=true→e.on≠i)→oi.apart ops ok=true:=fun k ok hk hki hun hno=>by
    refine hfree k ok hk hki ?_ hno
    by_cases hjk:j=k
    ·subst hjk;exact hjun
    ·rw [getD_set_ne true hjk] at hun;exact hun
   refine wpOp_mono (fun a' w' h3 => ?_) h2
   have hSw:S w':=h3.2.1.resolve_left (by rw [hnw];simp)
   refine ⟨.inr hSw,ih (listed.setIfInBounds j true) a' w' (hcl.set hoj hall) hfree' (ready_mono hr (Ne.symm hji)) h3.1 hSw ?_⟩
   rw [Array.setIfInBounds_comm _ _ hji]
   exact h3.2.2
theorem wpAnyN_take {ops:Array Oper} {Q:Exit→Act→World→Prop} {S:World→Prop} {i:Nat} {oi:Oper} {v:Value} {fuel:Nat} {listed:Array Bool} {a:Act} {w:World} (hi:ops[i]? = some oi) (hcl:Closed ops listed)
  (hs:Region.noSelect ops=true) (hf:Region.free .any ops listed i=true) (hr:(Region.ready .any ops listed).contains i=true)
  (hQ:∀ c a w,Q (.panic c) (a.put oi.dst v) w→Q (.panic c) a w) (hy:YieldsIf P ops S oi v a) (hS:S w)
  (h:wpAnyN P ops Q S fuel (listed.setIfInBounds i true) (a.put oi.dst v) w):wpAnyN P ops Q S (fuel+1) listed a w :=
 wpAnyN_first hi (Region.noSelect_spec hs) hQ fuel listed a w hcl (Region.free_spec hi hf) (by simpa using hr) hy hS h
theorem wpAnyN_all {ops:Array Oper} {Q:Exit→Act→World→Prop} {S:World→Prop} {rs:List Nat} {fuel:Nat} {listed:Array Bool} {a:Act} {w:World} (hr:Region.ready .any ops listed=rs) (hne:rs≠[])
  (h:∀ i∈rs,wpOp P ops Q i (fun a' w'=>(waitsAll ops i=true∨S w')∧wpAnyN P ops Q S fuel (listed.setIfInBounds i true) a' w') a w):wpAnyN P ops Q S (fuel+1) listed a w :=
 ⟨fun h0=>absurd (hr ▸ h0) hne,hr ▸ h⟩
theorem wpAnyN_done {ops:Array Oper} {Q:Exit→Act→World→Prop} {S:World→Prop} {listed:Array Bool} {a:Act} {w:World} (hr:Region.ready .any ops listed=[]) (h:Q .normal a w) :
  ∀ fuel,wpAnyN P ops Q S fuel listed a w
 | 0=>⟨hr,h⟩
 | _+1=>⟨fun _=>h,by rw [hr];simp⟩

def Plan.ok (ops:Array Oper):Plan→Array Bool→Bool
 | .done,listed=>Region.ready .any ops listed == []
 | .take i r,listed=>Region.free .any ops listed i && (Region.ready .any ops listed).contains i && r.ok ops (listed.setIfInBounds i true)
 | .only i r,listed=>Region.ready .any ops listed == [i] && r.ok ops (listed.setIfInBounds i true)
 | .last i,listed=>Region.ready .any ops listed == [i] && (waitsAll ops i && Region.ready .any ops (listed.setIfInBounds i true) == [])
 | .two i r j s,listed=>Region.ready .any ops listed == [i,j] && r.ok ops (listed.setIfInBounds i true) && s.ok ops (listed.setIfInBounds j true)

def Plan.len : Plan→Nat
 | .done=>0
 | .take _ r=>r.len+1
 | .only _ r=>r.len+1
 | .last _=>1
 | .two _ r _ s=>max r.len s.len+1

def nop : Oper := { dst := none,op := .move (.const undef),type := 0,pos := "",after := #[],guard := none }

def WPplan (P:Program) (ops:Array Oper) (S:World→Prop):Plan→(Regs→World→Prop)→Regs→World→Prop
 | .done,K,ρ,w=>K ρ w
 | .take i r,K,ρ,w =>
  if wantedR ops (ops.getD i nop) ρ then ∃ v,(∀ w,S w→(execOp (ev ρ) (ops.getD i nop)).run P w = .ok (.value v) w)∧S w∧WPplan P ops S r K (put ρ (ops.getD i nop).dst v) w
  else S w∧WPplan P ops S r K (put ρ (ops.getD i nop).dst undef) w
 | .only i r,K,ρ,w =>
  if wantedR ops (ops.getD i nop) ρ then WPop P (ops.getD i nop) ρ w (fun ρ' w'=>S w'∧WPplan P ops S r K ρ' w')
  else S w∧WPplan P ops S r K (put ρ (ops.getD i nop).dst undef) w
 | .last i,K,ρ,w =>
  if wantedR ops (ops.getD i nop) ρ then WPop P (ops.getD i nop) ρ w K
  else K (put ρ (ops.getD i nop).dst undef) w
 | .two i r j s,K,ρ,w =>
  (if wantedR ops (ops.getD i nop) ρ then WPop P (ops.getD i nop) ρ w (fun ρ' w'=>S w'∧WPplan P ops S r K ρ' w')
  else S w∧WPplan P ops S r K (put ρ (ops.getD i nop).dst undef) w) ∧
  (if wantedR ops (ops.getD j nop) ρ then WPop P (ops.getD j nop) ρ w (fun ρ' w'=>S w'∧WPplan P ops S s K ρ' w')
  else S w∧WPplan P ops S s K (put ρ (ops.getD j nop).dst undef) w)

theorem getD_of {ops:Array Oper} {i:Nat} {o:Oper} (h:ops[i]? = some o):ops.getD i nop=o:=by simp [h]

theorem ready_some {ops:Array Oper} {listed:Array Bool} {i:Nat} (h:i∈Region.ready .any ops listed):∃ o,ops[i]? = some o:=by
 obtain ⟨_,o,ho,_⟩:=mem_ready.1 h
 exact ⟨o,ho⟩

theorem fits_of {ops:Array Oper} (hf:fitsL n ops.toList=true) {i:Nat} {o:Oper} (ho:ops[i]? = some o):∀ t,o.dst=some t→t < n:=by
 have hm:o∈ops.toList:=by
  have:=Array.mem_of_getElem? ho
  exact Array.mem_toList_iff.2 this
 revert hm hf
 generalize ops.toList=l
 intro hf hm t ht
 induction l with
 | nil=>cases hm
 | cons x xs ih =>
  simp only [fitsL,Bool.and_eq_true] at hf
  cases hm with
  | head=>have:=hf.1;rw [ht] at this;simpa [Nat.blt_eq] using this
  | tail _ h=>exact ih hf.2 h

theorem wpOp_of_plan {ops:Array Oper} {S:World→Prop} {i:Nat} {o:Oper} (ho:ops[i]? = some o) {a:Act} {w:World} (hn:a.tmps.size=n) (hd:a.defers=[])
  (hfit:∀ t,o.dst=some t→t < n) {X:Regs→World→Prop} {X':Act→World→Prop} (hX:∀ a w,a.tmps.size=n→a.defers=[]→X (regs a) w→X' a w)
  (h:if wantedR ops (ops.getD i nop) (regs a) then WPop P (ops.getD i nop) (regs a) w (fun ρ' w'=>S w'∧X ρ' w')
   else S w∧X (put (regs a) (ops.getD i nop).dst undef) w) :
  wpOp P ops (liftQ n Q) i (fun a' w'=>S w'∧X' a' w') a w:=by
 rw [getD_of ho] at h
 unfold wpOp
 simp only [ho]
 rw [wanted_regs]
 by_cases hw:wantedR ops o (regs a)=true
 ·rw [if_pos hw] at h ⊢
  refine .inl ?_
  unfold Oper.wp
  rw [eval_regs]
  exact wp_of_WPr hn hd hfit (fun a w hn hd hk=>⟨hk.1,hX a w hn hd hk.2⟩) h
 ·rw [if_neg hw] at h ⊢
  refine ⟨h.1,hX _ _ (by rw [size_put];exact hn) (by rw [defers_put];exact hd) ?_⟩
  rw [regs_put a o.dst undef (fun t ht=>hn ▸ hfit t ht)]
  exact h.2

theorem wpAnyN_of_plan {ops:Array Oper} {S:World→Prop} (hs:Region.noSelect ops=true) (hf:fitsL n ops.toList=true) :
  ∀ (p:Plan) (fuel:Nat) (listed:Array Bool) (a:Act) (w:World),Closed ops listed→p.len≤fuel→p.ok ops listed=true→a.tmps.size=n→a.defers=[] →
   WPplan P ops S p (Q .normal) (regs a) w→wpAnyN P ops (liftQ n Q) S fuel listed a w:=by
 intro p
 induction p with
 | done =>
  intro fuel listed a w _ _ hok hn hd h
  exact wpAnyN_done (by simpa [Plan.ok] using hok) ⟨hn,hd,h⟩ fuel
 | take i r ih =>
  intro fuel listed a w hcl hl hok hn hd h
  simp only [Plan.len] at hl
  simp only [Plan.ok,Bool.and_eq_true] at hok
  obtain ⟨⟨hfree,hrd⟩,hok⟩:=hok
  obtain ⟨fuel,rfl⟩:∃ m,fuel=m+1:=⟨fuel - 1,by omega⟩
  obtain ⟨o,ho⟩:=ready_some (by simpa using hrd)
  have hfit:=fits_of hf ho
  have hcl':Closed ops (listed.setIfInBounds i true):=by
   obtain ⟨_,o',ho',hall⟩:=mem_ready.1 (show i∈Region.ready .any ops listed by simpa using hrd)
   exact hcl.set ho' hall
  simp only [WPplan] at h
  rw [getD_of ho] at h
  have go:∀ v,YieldsIf P ops S o v a→S w→WPplan P ops S r (Q .normal) (put (regs a) o.dst v) w→wpAnyN P ops (liftQ n Q) S (fuel+1) listed a w:=fun v hy hS h =>
   wpAnyN_take ho hcl hs hfree hrd (fun c a w h=>h.elim) hy hS
    (ih fuel _ _ w hcl' (by omega) hok (by rw [size_put];exact hn) (by rw [defers_put];exact hd) (by rw [regs_put a o.dst v (fun t ht=>hn ▸ hfit t ht)];exact h))
  by_cases hw:wantedR ops o (regs a)=true
  ·rw [if_pos hw] at h
   obtain ⟨v,hv,hS,h⟩:=h
   exact go v (.inl ⟨by rw [wanted_regs];exact hw,fun w hSw=>by rw [eval_regs];exact hv w hSw⟩) hS h
  ·rw [if_neg hw] at h
   exact go undef (.inr ⟨by rw [wanted_regs];simpa using hw,rfl⟩) h.1 h.2
 | only i r ih =>
  intro fuel listed a w hcl hl hok hn hd h
  simp only [Plan.len] at hl
  simp only [Plan.ok,Bool.and_eq_true,beq_iff_eq] at hok
  obtain ⟨hrd,hok⟩:=hok
  obtain ⟨fuel,rfl⟩:∃ m,fuel=m+1:=⟨fuel - 1,by omega⟩
  obtain ⟨o,ho⟩:=ready_some (i:=i) (by rw [hrd];simp)
  refine wpAnyN_all hrd (by simp) fun j hj0 => ?_
  have hj:j∈Region.ready .any ops listed:=hrd ▸ hj0
  obtain rfl:j=i:=by simpa using hj0
  exact wpOp_mono (fun a' w' h=>⟨.inr h.1,h.2⟩) (wpOp_of_plan ho hn hd (fits_of hf ho) (fun a w hn hd hk=>ih fuel _ a w (by obtain ⟨_,o',ho',hall⟩:=mem_ready.1 hj;exact hcl.set ho' hall) (by omega) hok hn hd hk) h)
 | last i =>
  intro fuel listed a w hcl hl hok hn hd h
  simp only [Plan.len] at hl
  simp only [Plan.ok,Bool.and_eq_true,beq_iff_eq] at hok
  obtain ⟨hrd,hwa,hok⟩:=hok
  obtain ⟨fuel,rfl⟩:∃ m,fuel=m+1:=⟨fuel - 1,by omega⟩
  obtain ⟨o,ho⟩:=ready_some (i:=i) (by rw [hrd];simp)
  refine wpAnyN_all hrd (by simp) fun j hj => ?_
  obtain rfl:j=i:=by simpa using hj
  refine wpOp_mono (fun a' w' h=>⟨.inl hwa,h.2⟩) (wpOp_of_plan (S:=fun _=>True) (X:=Q .normal) ho hn hd (fits_of hf ho) (fun a w hn hd hk=>wpAnyN_done hok ⟨hn,hd,hk⟩ fuel) ?_)
  simp only [WPplan] at h
  split
  ·rename_i hw
   rw [if_pos hw] at h
   unfold WPop at h ⊢
   simpa only [true_and] using h
  ·rename_i hw
   rw [if_neg hw] at h
   exact ⟨trivial,h⟩
 | two i r j s ih1 ih2 =>
  intro fuel listed a w hcl hl hok hn hd h
  simp only [Plan.len] at hl
  simp only [Plan.ok,Bool.and_eq_true,beq_iff_eq] at hok
  obtain ⟨⟨hrd,a8⟩,aA⟩:=hok
  obtain ⟨fuel,rfl⟩:∃ m,fuel=m+1:=⟨fuel - 1,by omega⟩
  obtain ⟨oi,hoi⟩:=ready_some (i:=i) (by rw [hrd];simp)
  obtain ⟨oj,hoj⟩:=ready_some (i:=j) (by rw [hrd];simp)
  refine wpAnyN_all hrd (by simp) fun k hk => ?_
  have hk0:k∈Region.ready .any ops listed:=hrd ▸ hk
  rcases List.mem_cons.1 hk with rfl|hk
  ·exact wpOp_mono (fun a' w' h=>⟨.inr h.1,h.2⟩) (wpOp_of_plan hoi hn hd (fits_of hf hoi) (fun a w hn hd hk=>ih1 fuel _ a w (by obtain ⟨_,o',ho',hall⟩:=mem_ready.1 hk0;exact hcl.set ho' hall) (by omega) a8 hn hd hk) h.1)
  ·obtain rfl:k=j:=by simpa using hk
   exact wpOp_mono (fun a' w' h=>⟨.inr h.1,h.2⟩) (wpOp_of_plan hoj hn hd (fits_of hf hoj) (fun a w hn hd hk=>ih2 fuel _ a w (by obtain ⟨_,o',ho',hall⟩:=mem_ready.1 hk0;exact hcl.set ho' hall) (by omega) aA hn hd hk) h.2)

theorem W.draw {id:Nat} {ops:Array Oper} {ρ:Regs} {w:World} (p:Plan) (S:World→Prop) (hm:P.follows .mixedOrders=true) (hs:Region.noSelect ops=true)
  (hf:fitsL n ops.toList=true) (hp:(p.ok ops (Array.replicate ops.size false) && Nat.ble p.len ops.size)=true)
  (h:WPplan P ops S p (Q .normal) ρ w.drew):W P n (.region id ops true) Q ρ w:=by
 intro a hn hd hr
 subst hr
 rw [Bool.and_eq_true] at hp
 exact wp_region_any hm (wpAny_of_N _ _ _ _ (wpAnyN_of_plan hs hf p ops.size _ a _ (Closed.start ops) (Nat.le_of_ble_eq_true hp.2) hp.1 hn hd h))

/-! ### Code -/

def thenQ (next:Regs→World→Prop) (Q:Exit→Regs→World→Prop):Exit→Regs→World→Prop
 | .normal,ρ,w=>next ρ w
 | e,ρ,w=>Q e ρ w

theorem W.mono {c:Code} {Q':Exit→Regs→World→Prop} {ρ:Regs} {w:World} (h:W P n c Q ρ w) (hq:∀ e ρ w,Q e ρ w→Q' e ρ w):W P n c Q' ρ w :=
 fun a hn hd hr=>wp_mono (h a hn hd hr) fun e a w he=>by
  cases e<;>first|exact he.elim|exact ⟨he.1,he.2.1,hq _ _ _ he.2.2⟩

theorem W.skip {ρ:Regs} {w:World} (h:Q .normal ρ w):W P n .skip Q ρ w :=
 fun a hn hd hr=>wp_skip ⟨hn,hd,hr ▸ h⟩
theorem W.label {l:Nat} {ρ:Regs} {w:World} (h:Q .normal ρ w):W P n (.label l) Q ρ w :=
 fun a hn hd hr=>wp_label ⟨hn,hd,hr ▸ h⟩
theorem W.exit {id:Nat} {ρ:Regs} {w:World} (h:Q (.exit id) ρ w):W P n (.exit id) Q ρ w :=
 fun a hn hd hr=>wp_exit ⟨hn,hd,hr ▸ h⟩
theorem W.goto {l:Nat} {ρ:Regs} {w:World} (h:Q (.goto l) ρ w):W P n (.goto l) Q ρ w :=
 fun a hn hd hr=>wp_goto ⟨hn,hd,hr ▸ h⟩
theorem W.ret {ρ:Regs} {w:World} (h:Q .ret ρ w):W P n .ret Q ρ w :=
 fun a hn hd hr=>wp_ret ⟨hn,hd,hr ▸ h⟩

theorem W.seq {x y:Code} {ρ:Regs} {w:World} (h:W P n x (thenQ (W P n y Q) Q) ρ w):W P n (.seq x y) Q ρ w :=
 fun a hn hd hr=>wp_seq (wp_mono (h a hn hd hr) fun e a' w' he=>by
  cases e<;>first|exact he.elim|exact he|exact he.2.2 a' he.1 he.2.1 rfl)

theorem W.cond {c:Operand} {x y:Code} {ρ:Regs} {w:World} {t:Bool} (hc:ev ρ c = .bool t) (h1:t=true→W P n x Q ρ w) (h0:t=false→W P n y Q ρ w) :
  W P n (.cond c x y) Q ρ w :=
 fun a hn hd hr=>wp_cond_split (t:=t) (by rw [eval_regs,hr];exact hc) (fun ht=>h1 ht a hn hd hr) (fun ht=>h0 ht a hn hd hr)

def blockQ (id:Nat) (Q:Exit→Regs→World→Prop):Exit→Regs→World→Prop
 | .exit id',ρ,w=>if id'=id then Q .normal ρ w else Q (.exit id') ρ w
 | e,ρ,w=>Q e ρ w

theorem W.block {id:Nat} {c:Code} {ρ:Regs} {w:World} (h:W P n c (blockQ id Q) ρ w):W P n (.block id c) Q ρ w :=
 fun a hn hd hr=>wp_block (wp_mono (h a hn hd hr) fun e a' w' he=>by
  cases e with
  | exit id' =>
   obtain ⟨h1,h2,h3⟩:=he
   simp only [blockQ] at h3
   simp only [Exit.inBlock]
   by_cases hi:id'=id
   ·simp only [hi,if_true] at h3 ⊢;exact ⟨h1,h2,h3⟩
   ·simp only [hi,if_false] at h3 ⊢;exact ⟨h1,h2,h3⟩
  | panic c=>exact he.elim
  | outgrown=>exact he.elim
  | normal=>exact he
  | goto l=>exact he
  | ret=>exact he)

theorem W.loop {c:Code} {ρ:Regs} {w:World} (I:Regs→World→Prop) (μ:Regs→World→Nat) (h₀:I ρ w)
  (round:∀ ρ w,I ρ w→W P n c (thenQ (fun ρ' w'=>I ρ' w'∧μ ρ' w' < μ ρ w) Q) ρ w):W P n (.loop c) Q ρ w:=by
 intro a hn hd hr
 refine wp_loop (fun a w=>a.tmps.size=n∧a.defers=[]∧I (regs a) w) (fun a w=>μ (regs a) w) ⟨hn,hd,hr ▸ h₀⟩ ?_
 intro a w ⟨hn,hd,hI⟩
 refine wp_mono (round _ w hI a hn hd rfl) fun e a' w' he => ?_
 cases e<;>first|exact he.elim|exact he|exact ⟨⟨he.1,he.2.1,he.2.2.1⟩,he.2.2.2⟩

def jumpQ (l:Nat) (J:Regs→World→Prop) (Q:Exit→Regs→World→Prop):Exit→Regs→World→Prop
 | .goto l',ρ,w=>l'=l∧J ρ w
 | e,ρ,w=>Q e ρ w

theorem W.scope {c rest:Code} {ρ:Regs} {w:World} (l:Nat) (J:Regs→World→Prop) (μ:Regs→World→Nat) (hf:findLabel c l=some rest)
  (first:W P n c (jumpQ l J Q) ρ w)
  (pass:∀ ρ w,J ρ w→W P n rest (jumpQ l (fun ρ' w'=>J ρ' w'∧μ ρ' w' < μ ρ w) Q) ρ w):W P n (.scope c) Q ρ w:=by
 intro a hn hd hr
 refine wp_scope_jumps l (fun a w=>a.tmps.size=n∧a.defers=[]∧J (regs a) w) (fun a w=>μ (regs a) w) hf ?_ ?_
 ·refine wp_mono (first a hn hd hr) fun e a' w' he => ?_
  cases e<;>first|exact he.elim|exact he|exact ⟨he.2.2.1,he.1,he.2.1,he.2.2.2⟩
 ·intro a w ⟨hn,hd,hJ⟩
  refine wp_mono (pass _ w hJ a hn hd rfl) fun e a' w' he => ?_
  cases e<;>first|exact he.elim|exact he|exact ⟨he.2.2.1,⟨he.1,he.2.1,he.2.2.2.1⟩,he.2.2.2.2⟩

/-! ### A function -/

def start (args:Array Value):Regs:=fun i=>args.getD i undef
theorem start_get (args:Array Value) (i:Nat):start args i=args.getD i undef:=nr rfl

def Res (P:Program) (fn:Func) (ρ:Regs) (w:World) (R:Value→World→Prop):Prop :=
 ∀ a:Act,regs a=ρ→∃ v,(results fn a.tmps).run P w = .ok v w∧R v w

def endR (P:Program) (fn:Func) (R:Value→World→Prop):Exit→Regs→World→Prop
 | .normal,ρ,w=>Res P fn ρ w R
 | .ret,ρ,w=>Res P fn ρ w R
 | _,_,_=>False

theorem fn_of_R {f:Nat} {fn:Func} {c:Code} {args:Array Value} {w:World} {R:Value→World→Prop}
  (hf:P.funcs[f]? = some fn) (hb:fn.body=some c) (hn:args.size≤fn.ntmps)
  (h:W P fn.ntmps c (endR P fn R) (start args) w):Fn P f args w R:=by
 refine calls_of_wp hf hb (wp_mono (h _ (by simp;omega) rfl ?_) ?_)
 ·funext i
  simp only [regs,start]
  by_cases hi:i < args.size
  ·simp [Array.getElem?_append,hi]
  ·simp only [Array.getD_eq_getD_getElem?,Array.getElem?_append,hi,if_false,Array.getElem?_eq_none (Nat.le_of_not_lt hi),Option.getD_none]
   by_cases hj:i - args.size < fn.ntmps - args.size
   ·simp [hj]
   ·simp [Array.getElem?_eq_none,hj]
 ·intro e a' w' he
  cases e with
  | normal=>obtain ⟨_,hd,hr⟩:=he;obtain ⟨v,h1,h2⟩:=hr a' rfl;exact ⟨hd,v,h1,h2⟩
  | ret=>obtain ⟨_,hd,hr⟩:=he;obtain ⟨v,h1,h2⟩:=hr a' rfl;exact ⟨hd,v,h1,h2⟩
  | exit id=>exact he.2.2.elim
  | goto l=>exact he.2.2.elim
  | panic c=>exact he.elim
  | outgrown=>exact he.elim

end
end Ms

attribute [go_sem_proc] Nat.reduceEqDiff Nat.reduceAdd Nat.reduceMul Nat.reduceSub Nat.reduceLT Nat.reduceLeDiff Int.reduceEq Int.reduceLT Int.reduceLE Int.reduceNeg Int.reduceAdd Int.reduceSub Int.reduceMul Int.reduceToNat reduceCtorEq
attribute [go_sem_proc ↓] reduceIte

namespace Ms
open Go

/-! ### Values -/
def optK {α:Type}:Option α→(α→Prop)→Prop
 | some a,k=>k a
 | none,_=>False
theorem optK_some {α:Type} (a:α) (k:α→Prop):optK (some a) k=k a:=nr rfl
def addrK : Value→(Addr→Prop)→Prop
 | .pointer (some a),k=>k a
 | _,_=>False
theorem addrK_ptr (a:Addr) (k:Addr→Prop):addrK (.pointer (some a)) k=k a:=nr rfl
def intK : Value→(IntKind→Int→Prop)→Prop
 | .int i n,k=>k i n
 | _,_=>False
theorem intK_int (i:IntKind) (n:Int) (k:IntKind→Int→Prop):intK (.int i n) k=k i n:=nr rfl
def boolK : Value→(Bool→Prop)→Prop
 | .bool b,k=>k b
 | _,_=>False
theorem boolK_bool (b:Bool) (k:Bool→Prop):boolK (.bool b) k=k b:=nr rfl
def sliceK : Value→(Option Addr→Nat→Nat→Prop)→Prop
 | .slice a n c,k=>k a n c
 | _,_=>False
theorem sliceK_slice (a:Option Addr) (n c:Nat) (k:Option Addr→Nat→Nat→Prop):sliceK (.slice a n c) k=k a n c:=nr rfl
def aggK : Value→(Array Value→Prop)→Prop
 | .agg s,k=>k s
 | _,_=>False
theorem aggK_agg (s:Array Value) (k:Array Value→Prop):aggK (.agg s) k=k s:=nr rfl
def tupleK : Value→(Array Value→Prop)→Prop
 | .tuple s,k=>k s
 | _,_=>False
theorem tupleK_tuple (s:Array Value) (k:Array Value→Prop):tupleK (.tuple s) k=k s:=nr rfl

def vcells (v:Value):Array Value:=v.cells
def kbits (k:IntKind):Nat:=k.bits
/-! ### Memory -/
abbrev Blk := Array Value × TypeId × (Nat × Nat)
def blk (w:World) (b:Nat):Option Blk :=
 match w.heap[b]? with
 | some (.cells c T fr)=>some (c,T,fr)
 | _=>none
def wrArr (c:Array Value) (o:Nat):List Value→Array Value
 | []=>c
 | v :: vs=>wrArr (c.setIfInBounds o v) (o+1) vs
def wr (w:World) (b o:Nat) (vs:List Value):World :=
 { w with heap:=w.heap.modify b fun
   | .cells c T fr=>.cells (wrArr c o vs) T fr
   | x=>x }

theorem cell?_blk (w:World) (b o:Nat):w.cell? ⟨b,o,none⟩=(blk w b).bind fun x=>x.1[o]?:=by
 simp only [World.cell?,blk]
 cases w.heap[b]? with
 | none=>rfl
 | some x=>cases x<;>rfl

theorem frozen?_blk {w:World} {b:Nat} {x:Blk} (h:blk w b=some x) (o:Nat):w.frozen? ⟨b,o,none⟩=(x.2.2.1≤o && o < x.2.2.2):=by
 simp only [World.frozen?]
 simp only [blk] at h
 cases hb:w.heap[b]? with
 | none=>rw [hb] at h;cases h
 | some y =>
  rw [hb] at h
  cases y<;>first|(simp at h;done)|skip
  simp only [Option.some.injEq] at h
  subst h
  rfl

def zeroOf (P:Program) (T:TypeId):Option (Array Value):=((P.info? T).bind (·.zero)).map (·.cells)
def isAggT (P:Program) (T:TypeId):Option Bool :=
 (P.underlying T).map fun d=>match d with|.struct _=>true|.array _ _=>true|_=>false
def loadKind (P:Program) (T:TypeId):Option (Option Nat) :=
 match isAggT P T,(P.info? T) with
 | some false,some _=>some none
 | some true,some i=>some (some i.size)
 | _,_=>none
def loadOf (P:Program) (T:TypeId) (w:World):Addr→Option Value
 | ⟨b,o,none⟩=>match loadKind P T with
  | some none=>(blk w b).bind fun x=>x.1[o]?
  | some (some n)=>(blk w b).bind fun x=>if o+n≤x.1.size then some (.agg (x.1.extract o (o+n))) else none
  | none=>none
 | _=>none
def flat (v:Value):Bool:=match v with|.agg _=>false|.tuple _=>false|_=>true
def sizeT (P:Program) (T:TypeId):Option Nat:=(P.info? T).map (·.size)
def thaw (fr:Nat × Nat) (o n:Nat):Bool:=Nat.ble fr.2 o || Nat.ble (o+n) fr.1
def storeOf (P:Program) (T:TypeId) (w:World):Addr→Value→Option World
 | ⟨b,o,none⟩,v=>(sizeT P T).bind fun n=>(blk w b).bind fun x =>
  if v.cells.size=n∧o+n≤x.1.size∧thaw x.2.2 o n=true∧v.cells.toList.all flat=true then some (wr w b o v.cells.toList) else none
 | _,_=>none
def knownT (P:Program) (T:TypeId):Bool:=(P.underlying T).isSome
def fieldOff (P:Program) (T:TypeId) (k:Nat):Option Nat :=
 match P.underlying T with
 | some (.struct fs)=>(fs[k]?).bind fun f=>(P.info? f.type).bind fun i=>if i.size=0 then none else some f.offset
 | _=>none
def addOff : Addr→Nat→Option Addr
 | ⟨b,o,none⟩,n=>some ⟨b,o+n,none⟩
 | _,_=>none
def elemSize (P:Program) (T:TypeId):Option Nat :=
 match P.underlying T with
 | some (.slice e)=>(P.info? e).map (·.size)
 | _=>none
def isStrT (P:Program) (T:TypeId):Bool:=match P.underlying T with|some .string=>true|_=>false
def isSliceT (P:Program) (T:TypeId):Bool:=match P.underlying T with|some (.slice _)=>true|_=>false
def isIfaceT (P:Program) (T:TypeId):Bool:=match P.underlying T with|some (.interface _)=>true|_=>false
def intT (P:Program) (T:TypeId):Option IntKind:=match P.underlying T with|some (.int k)=>some k|_=>none
def callable (P:Program) (f:FuncId):Bool :=
 match P.funcs[f]? with
 | some fn => !(fn.name == "runtime.NumGoroutine") && fn.body.isSome
 | none=>false

def cmpOf : BinOp→Int→Int→Option Bool
 | .eql,x,y=>some (x == y)
 | .neq,x,y=>some (x != y)
 | .lss,x,y=>some (decide (x < y))
 | .leq,x,y=>some (decide (x≤y))
 | .gtr,x,y=>some (decide (x > y))
 | .geq,x,y=>some (decide (x ≥ y))
 | _,_,_=>none
def bitsOf (k:IntKind):BinOp→Int→Int→Option Int
 | .and,x,y=>some (k.wrap ((BitVec.ofInt k.bits x &&& BitVec.ofInt k.bits y).toNat:Int))
 | .or,x,y=>some (k.wrap ((BitVec.ofInt k.bits x ||| BitVec.ofInt k.bits y).toNat:Int))
 | .xor,x,y=>some (k.wrap ((BitVec.ofInt k.bits x ^^^ BitVec.ofInt k.bits y).toNat:Int))
 | _,_,_=>none
def shlO (k:IntKind) (x y:Int):Option Value:=if y < 0 then none else some (.int k (k.wrap (x * 2 ^ (min y.toNat k.bits))))
def shrO (k:IntKind) (x y:Int):Option Value:=if y < 0 then none else some (.int k (x.fdiv (2 ^ (min y.toNat k.bits))))
theorem shlO_ok (k:IntKind) {x y:Int} (h:0≤y):shlO k x y=some (.int k (k.wrap (x * 2 ^ (min y.toNat k.bits)))):=if_neg (by omega)
theorem shrO_ok (k:IntKind) {x y:Int} (h:0≤y):shrO k x y=some (.int k (x.fdiv (2 ^ (min y.toNat k.bits)))):=if_neg (by omega)
def idxO (j:Int) (n:Nat):Option Nat:=if 0≤j∧j < n then some j.toNat else none
theorem idxO_ok {j:Int} {n:Nat} (h:0≤j∧j < n):idxO j n=some j.toNat:=if_pos h
def intOp (op:BinOp) (k:IntKind) (x y:Int):Option Value :=
 match op with
 | .add=>some (.int k (k.wrap (x+y)))
 | .sub=>some (.int k (k.wrap (x - y)))
 | .mul=>some (.int k (k.wrap (x * y)))
 | .rem=>if y=0 then none else some (.int k (x.tmod y))
 | .and=>(bitsOf k .and x y).map (.int k)
 | .or=>(bitsOf k .or x y).map (.int k)
 | .xor=>(bitsOf k .xor x y).map (.int k)
 | .quo=>none
 | .andNot=>none
 | .shl=>shlO k x y
 | .shr=>shrO k x y
 | op=>(cmpOf op x y).map .bool

def isBoolT (P:Program) (T:TypeId):Bool:=match P.underlying T with|some .bool=>true|_=>false
def isMapT (P:Program) (T:TypeId):Bool:=match P.underlying T with|some (.map _ _)=>true|_=>false
def isPtrT (P:Program) (T:TypeId):Bool:=match P.underlying T with|some (.pointer _)=>true|_=>false
def eqV (op:BinOp) (ok r:Bool):Option Value :=
 if ok=true then match op with|.eql=>some (.bool r)|.neq=>some (.bool (!r))|_=>none else none
def intV (op:BinOp) (k k':IntKind) (x y:Int):Option Value :=
 match op with
 | .shl=>intOp .shl k x y
 | .shr=>intOp .shr k x y
 | op=>if k=k' then intOp op k x y else none
def binV (P:Program) (op:BinOp) (T:TypeId) (a b:Value):Option Value :=
 match a with
 | .int k x=>match b with|.int k' y=>intV op k k' x y|_=>none
 | .bool x=>match b with|.bool y=>eqV op (isBoolT P T) (x == y)|_=>none
 | .slice a _ _=>match b with|.slice c _ _=>eqV op (isSliceT P T && c.isNone) a.isNone|_=>none
 | .map a=>match b with|.map c=>eqV op (isMapT P T && c.isNone) a.isNone|_=>none
 | .pointer a=>match b with|.pointer c=>eqV op (isPtrT P T && c.isNone) a.isNone|_=>none
 | .iface _ _=>match b with|.nilIface=>eqV op (isIfaceT P T) false|_=>none
 | _=>none

def isNilI : Value→Bool
 | .nilIface=>true
 | _=>false
def isConstO : Operand→Bool
 | .const _=>true
 | _=>false
def binNil (P:Program) (op:BinOp) (T:TypeId) (y:Operand) (a b:Value):Option Value :=
 if isNilI a=true then (if isNilI b=true then eqV op (isIfaceT P T && isConstO y) true else none) else binV P op T a b

def placesOf (P:Program) (T:TypeId):Option (List (Nat × Nat)) :=
 match P.underlying T with
 | some (.struct fs)=>fs.toList.mapM fun f=>(P.info? f.type).map fun i=>(f.offset,i.size)
 | _=>none
def fillL (places:List (Nat × Nat)) (cells:Array Value):List (Nat × Value)→Option (Array Value)
 | []=>some cells
 | (i,v) :: rest=>match places[i]? with
  | none=>none
  | some (off,size)=>if v.cells.size=size∧off+v.cells.size≤cells.size then fillL places (wrArr cells off v.cells.toList) rest else none
def slElem (P:Program) (T:TypeId):Option (TypeId × Nat) :=
 match P.underlying T with
 | some (.slice e)=>(P.info? e).bind fun i=>if i.zero.isSome=true then some (e,i.size) else none
 | _=>none
def bsl (size:Nat):Nat→List (Nat × Value)→Option (List Value)
 | _,[]=>some []
 | k,(i,v) :: ps=>if i=k∧v.cells.size=size then (bsl size (k+1) ps).map (v.cells.toList++·) else none
def funcK : Value→(FuncId→Array Value→Array Value→Prop)→Prop
 | .func (.func f) a b,k=>k f a b
 | _,_=>False
theorem funcK_func (f:FuncId) (a b:Array Value) (k:FuncId→Array Value→Array Value→Prop):funcK (.func (.func f) a b) k=k f a b:=nr rfl
def convV (P:Program) (S T:TypeId):Value→Option Value
 | .int _ n=>if knownT P S=true then (intT P T).map fun k=>.int k (k.wrap n) else none
 | _=>none
def lenV (P:Program) (T:TypeId):Value→Option Value
 | .slice _ n _=>if isSliceT P T=true then some (.int .i64 n) else none
 | .string s=>if isStrT P T=true then some (.int .i64 s.size) else none
 | _=>none
def minV : Value→Value→Option Value
 | .int k x,.int _ y=>some (.int k (if y < x then y else x))
 | _,_=>none
def maxV : Value→Value→Option Value
 | .int k x,.int _ y=>some (.int k (if y > x then y else x))
 | _,_=>none
def slBase (a:Option Addr) (l m s:Nat):Option Addr:=if m=l then a else a.map (·.add (l * s))
def bnd (v:Value) (y:Nat):Option Nat :=
 match v with
 | .int _ i=>if 0≤i∧i≤y then some i.toNat else none
 | _=>none
theorem bnd_ok {k:IntKind} {i:Int} {y:Nat} (h:0≤i∧i≤y):bnd (.int k i) y=some i.toNat:=if_pos h
def arrLen (P:Program) (T:TypeId):Option Nat :=
 match P.underlying T with
 | some (.array n e)=>if (P.info? e).isSome=true then some n else none
 | _=>none
def sliceV (P:Program) (T:TypeId) (lo hi mx:Option Value):Value→Option Value
 | .slice a n c=>(elemSize P T).bind fun s =>
  (match mx with|none=>some c|some v=>bnd v c).bind fun m =>
  (match hi,mx with|none,none=>some n|none,some _=>none|some v,_=>bnd v m).bind fun h =>
  (match lo with|none=>some 0|some v=>bnd v h).bind fun l=>some (.slice (slBase a l m s) (h - l) (m - l))
 | .pointer (some a)=>if lo.isNone && hi.isNone && mx.isNone then (arrLen P T).map fun n=>.slice (some a) n n else none
 | _=>none
def bltK (P:Program) (b:Builtin) (ts:Array TypeId) (vs:Array Value):Option Value :=
 match b with
 | .len=>(ts[0]?).bind fun T=>(vs[0]?).bind fun v=>lenV P T v
 | .min=>(vs[0]?).bind fun x=>(vs[1]?).bind fun y=>if vs.size=2 then minV x y else none
 | .max=>(vs[0]?).bind fun x=>(vs[1]?).bind fun y=>if vs.size=2 then maxV x y else none
 | _=>none
def plainB : Builtin→Bool
 | .len=>true
 | .min=>true
 | .max=>true
 | _=>false

structure rawK (P:Program) (o:Oper) (ρ:Regs) (w:World) (K:Regs→World→Prop):Prop where
 run:WPr P o.dst ρ K ((execOp (ev ρ) o).run P w)
theorem rawK_congr {P:Program} {o:Oper} {ρ ρ':Regs} {w w':World} {K:Regs→World→Prop} (h1:ρ=ρ') (h2:w=w'):rawK P o ρ w K=rawK P o ρ' w' K:=by rw [h1,h2]
def convK (P:Program) (S T:TypeId) (v:Value) (k:Value→Prop) (raw:Prop):Prop :=
 match v with
 | .int i n=>optK (convV P S T (.int i n)) k
 | _=>raw
theorem convK_int (P:Program) (S T:TypeId) (i:IntKind) (n:Int) (k:Value→Prop) (raw:Prop):convK P S T (.int i n) k raw=optK (convV P S T (.int i n)) k:=nr rfl
theorem convK_slice (P:Program) (S T:TypeId) (a:Option Addr) (n c:Nat) (k:Value→Prop) (raw:Prop):convK P S T (.slice a n c) k raw=raw:=nr rfl
theorem convK_string (P:Program) (S T:TypeId) (s:ByteArray) (k:Value→Prop) (raw:Prop):convK P S T (.string s) k raw=raw:=nr rfl
theorem convK_congr {P:Program} {S T:TypeId} {v v':Value} {k:Value→Prop} {raw:Prop} (h:v=v'):convK P S T v k raw=convK P S T v' k raw:=by rw [h]
def fieldO (P:Program) (T:TypeId) (k:Nat):Option (Option Nat × Nat) :=
 match P.underlying T with
 | some (.struct fs)=>(fs[k]?).bind fun f=>(loadKind P f.type).map fun o=>(o,f.offset)
 | _=>none
def fieldV (P:Program) (T:TypeId) (k:Nat) (cs:Array Value):Option Value :=
 match fieldO P T k with
 | some (none,o)=>cs[o]?
 | some (some n,o)=>some (.agg (cs.extract o (o+n)))
 | none=>none
theorem fieldV_one {P:Program} {T:TypeId} {k o:Nat} (h:fieldO P T k=some (none,o)) (cs:Array Value):fieldV P T k cs=cs[o]?:=by simp only [fieldV,h]
def plainV (b:Builtin) (vs:Array Value):Bool:=plainB b && (match (vs[0]?:Option Value) with|some (Value.map _)=>false|_=>true)
theorem plainV_slice (a:Option Addr) (n c:Nat):plainV .len #[.slice a n c] = true:=nr rfl
theorem plainV_string (s:ByteArray):plainV .len #[.string s] = true:=nr rfl
theorem plainV_map (m:Option Nat):plainV .len #[.map m] = false:=nr rfl
theorem plainV_min (k k':IntKind) (x y:Int):plainV .min #[.int k x,.int k' y] = true:=nr rfl
theorem plainV_max (k k':IntKind) (x y:Int):plainV .max #[.int k x,.int k' y] = true:=nr rfl
theorem plainV_append (vs:Array Value):plainV .append vs=false:=nr rfl
theorem plainV_copy (vs:Array Value):plainV .copy vs=false:=nr rfl
def stepK (P:Program) (o:Oper) (ρ:Regs) (w:World) (K:Regs→World→Prop):Prop :=
 match o.op with
 | .move x=>K (put ρ o.dst (ev ρ x)) w
 | .assign x=>K (put ρ o.dst (ev ρ x)) w
 | .pick c a b=>boolK (ev ρ c) fun t=>K (put ρ o.dst (if t=true then ev ρ a else ev ρ b)) w
 | .alloc T=>optK (zeroOf P T) fun z=>K (put ρ o.dst (.pointer (some ⟨w.heap.size,0,none⟩))) (w.alloc (.cells z T))
 | .box T x=>K (put ρ o.dst (.pointer (some ⟨w.heap.size,0,none⟩))) (w.alloc (.cells (ev ρ x).cells T))
 | .load T x=>addrK (ev ρ x) fun a=>optK (loadOf P T w a) fun v=>K (put ρ o.dst v) w
 | .store T x y=>addrK (ev ρ x) fun a=>optK (storeOf P T w a (ev ρ y)) fun w'=>K (put ρ o.dst undef) w'
 | .nilCheck x=>addrK (ev ρ x) fun a=>K (put ρ o.dst (.pointer (some a))) w
 | .fieldAddr T x k=>addrK (ev ρ x) fun a=>optK (fieldOff P T k) fun n=>optK (addOff a n) fun a'=>K (put ρ o.dst (.pointer (some a'))) w
 | .indexAddr T x i=>optK (elemSize P T) fun s=>sliceK (ev ρ x) fun base len _=>intK (ev ρ i) fun _ j=>optK (idxO j len) fun j=>optK base fun a=>optK (addOff a (j * s)) fun a'=>K (put ρ o.dst (.pointer (some a'))) w
 | .binOp op T x y _=>optK (binNil P op T y (ev ρ x) (ev ρ y)) fun v=>K (put ρ o.dst v) w
 | .unOp .not _ x=>boolK (ev ρ x) fun t=>K (put ρ o.dst (.bool (!t))) w
 | .extract x i=>tupleK (ev ρ x) fun vs=>optK (vs[i]?) fun v=>K (put ρ o.dst v) w
 | .makeInterface T x=>isIfaceT P T=false∧knownT P T=true∧K (put ρ o.dst (.iface T (ev ρ x))) w
 | .build T parts=>optK (zeroOf P T) fun z=>optK (placesOf P T) fun pl=>optK (fillL pl z (parts.toList.map fun (i,x)=>(i,ev ρ x))) fun cs=>K (put ρ o.dst (.agg cs)) w
 | .buildSlice T n parts=>optK (slElem P T) fun e=>optK (bsl e.2 0 (parts.toList.map fun (i,x)=>(i,ev ρ x))) fun cs =>
  (parts.size=n∧n * e.2≤16777216)∧K (put ρ o.dst (.slice (some ⟨w.heap.size,0,none⟩) n n)) (w.alloc (.cells cs.toArray e.1))
 | .convert S T x=>convK P S T (ev ρ x) (fun v=>K (put ρ o.dst v) w) (rawK P o ρ w K)
 | .field T x k=>aggK (ev ρ x) fun cs=>optK (fieldV P T k cs) fun v=>K (put ρ o.dst v) w
 | .slice T x lo hi mx=>optK (sliceV P T (lo.map (ev ρ)) (hi.map (ev ρ)) (mx.map (ev ρ)) (ev ρ x)) fun v=>K (put ρ o.dst v) w
 | .call { callee:=.value x,args,.. }=>funcK (ev ρ x) fun f a b=>if callable P f=true then Fn P f (a++args.map (ev ρ)++b) w fun v w'=>K (put ρ o.dst v) w' else rawK P o ρ w K
 | .call { callee:=.builtin b,args,argTypes }=>if plainV b (args.map (ev ρ))=true then optK (bltK P b argTypes (args.map (ev ρ))) fun v=>K (put ρ o.dst v) w
  else rawK P o ρ w K
 | .makeFunc fn first captured=>K (put ρ o.dst (.func fn (first.map (ev ρ)) (captured.map (ev ρ)))) w
 | _=>rawK P o ρ w K

def WPsq (P:Program) (ops:Array Oper):List Oper→(Regs→World→Prop)→Regs→World→Prop
 | [],K,ρ,w=>K ρ w
 | o :: os,K,ρ,w=>if wantedR ops o ρ=true then stepK P o ρ w (WPsq P ops os K) else WPsq P ops os K (put ρ o.dst undef) w

section
variable {P : Program}

theorem run_typeInfo {T:TypeId} {i:TypeInfo} (h:P.info? T=some i) (w:World):(typeInfo T).run P w = .ok i w:=by
 simp only [typeInfo,Sem.run_bind,program,Sem.run,Result.andThen_ok,h];rfl
theorem run_underlying {T:TypeId} {d:TypeDesc} (h:P.underlying T=some d) (w:World):(underlying T).run P w = .ok d w:=by
 simp only [underlying,Sem.run_bind,program,Sem.run,Result.andThen_ok,h];rfl
theorem run_sizeOf {T:TypeId} {i:TypeInfo} (h:P.info? T=some i) (w:World):(Go.sizeOf T).run P w = .ok i.size w:=by
 simp only [Go.sizeOf,Sem.run_bind,run_typeInfo h,Result.andThen_ok];rfl
theorem run_isAgg {T:TypeId} {b:Bool} (h:isAggT P T=some b) (w:World):(isAgg T).run P w = .ok b w:=by
 simp only [isAggT,Option.map_eq_some_iff] at h
 obtain ⟨d,hd,rfl⟩:=h
 simp only [isAgg,Sem.run_bind,run_underlying hd,Result.andThen_ok]
 cases d<;>rfl
theorem run_zero {T:TypeId} {i:TypeInfo} {z:Value} (h:P.info? T=some i) (hz:i.zero=some z) (w:World):(zeroValue T).run P w = .ok z w:=by
 simp only [zeroValue,Sem.run_bind,run_typeInfo h,Result.andThen_ok,hz];rfl

theorem run_load1 {w:World} {a:Addr} {v:Value} (h:w.cell? a=some v):(load a).run P w = .ok v w:=by
 simp [h]

theorem add_plain (b o i:Nat):Addr.add ⟨b,o,none⟩ i=⟨b,o+i,none⟩:=by
 unfold Addr.add
 by_cases h:i=0
 ·simp [h]
 ·simp [h]

theorem run_loadCells {w:World} {b o:Nat} {x:Blk} (hb:blk w b=some x):∀ (n i:Nat) (acc:Array Value),o+i+n≤x.1.size →
  (loadCellsFrom ⟨b,o,none⟩ i n acc).run P w = .ok (acc++x.1.extract (o+i) (o+i+n)) w:=by
 intro n
 induction n with
 | zero=>intro i acc h;simp [loadCellsFrom,Array.extract_empty_of_stop_le_start]
 | succ n ih =>
  intro i acc h
  have ha:Addr.add ⟨b,o,none⟩ i=⟨b,o+i,none⟩:=add_plain b o i
  have hc:w.cell? (Addr.add ⟨b,o,none⟩ i)=some (x.1[o+i]'(by omega)):=by
   rw [ha,cell?_blk,hb];simp
  simp only [loadCellsFrom,Sem.run_bind,run_load1 hc,Result.andThen_ok]
  rw [ih (i+1) _ (by omega)]
  congr 1
  apply Array.ext
  ·simp;omega
  ·intro j h1 h2
   simp only [Array.getElem_append,Array.size_push,Array.getElem_push,Array.getElem_extract]
   by_cases hj:j < acc.size
   ·simp [hj,Nat.lt_succ_of_lt hj]
   ·by_cases hj2:j=acc.size
    ·subst hj2;simp
    ·have:¬ j < acc.size+1:=by omega
     simp only [hj,this,dif_neg,not_false_iff]
     congr 1;omega

theorem loadOf_sound {T:TypeId} {w:World} {a:Addr} {v:Value} (h:loadOf P T w a=some v):(loadVar T a).run P w = .ok v w:=by
 obtain ⟨b,o,sp⟩:=a
 cases sp with
 | some s=>simp [loadOf] at h
 | none =>
  simp only [loadOf,loadKind] at h
  cases hagg:isAggT P T with
  | none=>simp [hagg] at h
  | some t =>
   cases hi:P.info? T with
   | none=>cases t<;>simp [hagg,hi] at h
   | some i =>
    cases t with
    | false =>
     simp only [hagg,hi] at h
     have hc:w.cell? ⟨b,o,none⟩=some v:=by rw [cell?_blk];exact h
     simp only [loadVar,Sem.run_bind,run_isAgg hagg,Result.andThen_ok,Bool.false_eq_true,if_false,run_load1 hc]
    | true =>
     simp only [hagg,hi] at h
     cases hb:blk w b with
     | none=>simp [hb] at h
     | some x =>
      simp only [hb,Option.bind_some] at h
      by_cases hs:o+i.size≤x.1.size
      ·rw [if_pos hs] at h
       simp only [Option.some.injEq] at h
       subst h
       simp only [loadVar,Sem.run_bind,run_isAgg hagg,Result.andThen_ok,if_true,run_sizeOf hi,loadCells]
       rw [run_loadCells hb i.size 0 #[] (by omega)]
       simp
      ·rw [if_neg hs] at h;cases h

theorem run_store1 {w:World} {b o:Nat} {x:Blk} {v:Value} (hb:blk w b=some x) (ho:o < x.1.size) (hfr:x.2.2.2≤o∨o < x.2.2.1) (hv:flat v=true) :
  (store ⟨b,o,none⟩ v).run P w = .ok () (w.setCell ⟨b,o,none⟩ v):=by
 have hc:w.cell? ⟨b,o,none⟩=some (x.1[o]):=by rw [cell?_blk,hb];simp [ho]
 have hf:w.frozen? ⟨b,o,none⟩=false:=by rw [frozen?_blk hb];simp;omega
 cases v<;>first|(simp [flat] at hv;done)|simp [store,Sem.run,hc,hf]

theorem setCell_wr (w:World) (b o:Nat) (v:Value):w.setCell ⟨b,o,none⟩ v=wr w b o [v]:=by
 simp only [World.setCell,wr]
 congr 2

theorem wr_wr {w:World} {b o:Nat} (v:Value) (vs:List Value):wr (wr w b o [v]) b (o+1) vs=wr w b o (v :: vs):=by
 simp only [wr]
 congr 1
 apply Array.ext
 ·simp
 ·intro i h1 h2
  have hi:i < w.heap.size:=by simpa using h2
  simp only [Array.getElem_modify]
  split
  ·cases w.heap[i]'hi<;>simp [wrArr]
  ·rfl

theorem wrArr_size (c:Array Value) (o:Nat) (vs:List Value):(wrArr c o vs).size=c.size:=by
 induction vs generalizing c o with
 | nil=>rfl
 | cons v vs ih=>simp [wrArr,ih]

theorem blk_wr_same {w:World} {b:Nat} {x:Blk} (o:Nat) (vs:List Value) (h:blk w b=some x):blk (wr w b o vs) b=some (wrArr x.1 o vs,x.2):=by
 simp only [blk] at h
 simp only [blk,wr,Array.getElem?_modify,if_true]
 cases hb:w.heap[b]? with
 | none=>rw [hb] at h;cases h
 | some y =>
  rw [hb] at h
  cases y<;>first|(simp at h;done)|skip
  simp only [Option.some.injEq] at h
  subst h
  rfl

theorem run_storeCells {b:Nat}:∀ (vs:List Value) (w:World) (o i:Nat) (x:Blk),blk w b=some x→o+i+vs.length≤x.1.size→(x.2.2.2≤o+i∨o+i+vs.length≤x.2.2.1)→vs.all flat=true →
  (storeCells ⟨b,o,none⟩ vs i).run P w = .ok () (wr w b (o+i) vs):=by
 intro vs
 induction vs with
 | nil =>
  intro w o i x hb _ _ _
  have:wr w b (o+i) [] = w:=by
   simp only [wr]
   congr 1
   apply Array.ext
   ·simp
   ·intro j h1 h2
    simp only [Array.getElem_modify]
    split
    ·cases w.heap[j]'(by simpa using h2)<;>simp [wrArr]
    ·rfl
  rw [this];rfl
 | cons v vs ih =>
  intro w o i x hb hl hf hv
  simp only [List.length_cons] at hl hf
  simp only [List.all_cons,Bool.and_eq_true] at hv
  have hs:=run_store1 (P:=P) (o:=o+i) hb (by omega) (by omega) hv.1
  simp only [storeCells,Sem.run_bind,add_plain,hs,Result.andThen_ok]
  rw [setCell_wr]
  have:=ih (wr w b (o+i) [v]) o (i+1) _ (blk_wr_same (o+i) [v] hb) (by rw [wrArr_size];omega) (by simp only [];omega) hv.2
  rw [this,← Nat.add_assoc,wr_wr]

theorem storeOf_sound {T:TypeId} {w w':World} {a:Addr} {v:Value} (h:storeOf P T w a v=some w'):(storeVar T a v).run P w = .ok () w':=by
 obtain ⟨b,o,sp⟩:=a
 cases sp with
 | some s=>simp [storeOf] at h
 | none =>
  simp only [storeOf,Option.bind_eq_some_iff,sizeT,Option.map_eq_some_iff] at h
  obtain ⟨n,⟨i,hi,rfl⟩,x,hb,h⟩:=h
  split at h
  ·rename_i hc
   obtain ⟨h1,h2,h3,h4⟩:=hc
   simp only [Option.some.injEq] at h
   subst h
   have hl:v.cells.toList.length=i.size:=by simpa using h1
   have h3':x.2.2.2≤o∨o+i.size≤x.2.2.1:=by simpa [thaw,Nat.ble_eq] using h3
   simp only [storeVar,Sem.run_bind,run_sizeOf hi,Result.andThen_ok]
   rw [if_neg (by simpa using h1)]
   have:=run_storeCells (P:=P) v.cells.toList w o 0 x hb (by rw [hl];simpa using h2) (by rw [hl];simpa using h3') h4
   simpa using this
  ·cases h

theorem fieldOff_sound {T k n:Nat} {a a':Addr} (h:fieldOff P T k=some n) (ha:addOff a n=some a') (w:World) :
  (Instr.fieldAt T (.pointer (some a)) k).run P w = .ok (.pointer (some a')) w:=by
 simp only [fieldOff] at h
 split at h
 ·rename_i fs hu
  cases hf:fs[k]? with
  | none=>simp [hf] at h
  | some f =>
   simp only [hf,Option.bind_some] at h
   cases hi:P.info? f.type with
   | none=>simp [hi] at h
   | some i =>
    simp only [hi,Option.bind_some] at h
    split at h
    ·cases h
    ·rename_i hne
     simp only [Option.some.injEq] at h
     subst h
     simp only [Instr.fieldAt,Sem.run_bind,run_underlying hu,Result.andThen_ok,hf,Instr.sureAddr,Sem.run_pure,fieldPlace,run_sizeOf hi]
     rw [if_neg hne]
     simp only [Sem.run_pure,Result.andThen_ok]
     obtain ⟨b,o,sp⟩:=a
     cases sp with
     | some s=>simp [addOff] at ha
     | none =>
      simp only [addOff,Option.some.injEq] at ha
      subst ha
      rw [add_plain]
 ·cases h

theorem add_of_addOff {a a':Addr} {n:Nat} (ha:addOff a n=some a'):a.add n=a':=by
 obtain ⟨b,o,sp⟩:=a
 cases sp with
 | some s=>simp [addOff] at ha
 | none =>
  simp only [addOff,Option.some.injEq] at ha
  subst ha
  exact add_plain _ _ _

theorem intOp_sound {op:BinOp} {k k':IntKind} {x y:Int} {v:Value} {T:TypeId} (h:intV op k k' x y=some v) (w:World) :
    (binOp op T (.int k x) (.int k' y)).run P w = .ok v w:=by
  cases op<;>simp only [intV,intOp,shlO,shrO] at h <;>
    first
    | (split at h
       · rename_i hk;subst hk
         first
         | (simp only [Option.some.injEq] at h;subst h;simp [binOp,Op.intArith])
         | (split at h
            · cases h
            · rename_i hy;simp only [Option.some.injEq] at h;subst h;simp [binOp,Op.intDiv,hy])
         | (simp only [bitsOf,Option.map_some,Option.some.injEq] at h;subst h;simp [binOp,Op.intBits])
         | (simp only [cmpOf,Option.map_some,Option.some.injEq] at h;subst h;simp [binOp,Op.intCmp])
         | (simp [cmpOf] at h)
       · cases h)
    | (split at h
       · cases h
       · rename_i hy;simp only [Option.some.injEq] at h;subst h;simp [binOp,Op.shift,hy])
    | (simp [cmpOf] at h)

end

section
variable {P : Program}

theorem under_bool {T:TypeId} (h:isBoolT P T=true):P.underlying T=some .bool:=by
 unfold isBoolT at h;split at h<;>simp_all
theorem under_slice {T:TypeId} (h:isSliceT P T=true):∃ e,P.underlying T=some (.slice e):=by
 unfold isSliceT at h;split at h<;>simp_all
theorem under_map {T:TypeId} (h:isMapT P T=true):∃ k e,P.underlying T=some (.map k e):=by
 unfold isMapT at h;split at h<;>simp_all
theorem under_ptr {T:TypeId} (h:isPtrT P T=true):∃ e,P.underlying T=some (.pointer e):=by
 unfold isPtrT at h;split at h<;>simp_all
theorem under_iface {T:TypeId} (h:isIfaceT P T=true):∃ e,P.underlying T=some (.interface e):=by
 unfold isIfaceT at h;split at h<;>simp_all

theorem eqV_cases {op:BinOp} {ok r:Bool} {v:Value} (h:eqV op ok r=some v):ok=true∧((op = .eql∧v = .bool r)∨(op = .neq∧v = .bool (!r))):=by
 unfold eqV at h
 split at h
 ·rename_i hok
  refine ⟨hok,?_⟩
  cases op<;>simp_all
 ·cases h

theorem run_eql {T:TypeId} {a b:Value} {r:Bool} {w:World} (hn:∀ op,binOp op T a b=match op with|.eql=>(do pure (.bool (← Op.equal T a b)))|.neq=>(do pure (.bool (!(← Op.equal T a b))))|_=>binOp op T a b)
  (h:(Op.equal T a b).run P w = .ok r w) {op:BinOp} {v:Value} (ho:(op = .eql∧v = .bool r)∨(op = .neq∧v = .bool (!r))):(binOp op T a b).run P w = .ok v w:=by
 rcases ho with ⟨rfl,rfl⟩|⟨rfl,rfl⟩
 ·rw [hn];simp [h]
 ·rw [hn];simp [h]

theorem binV_sound {op:BinOp} {T:TypeId} {a b v:Value} (h:binV P op T a b=some v) (w:World):(binOp op T a b).run P w = .ok v w:=by
 unfold binV at h
 split at h
 ·split at h
  ·exact intOp_sound h w
  ·cases h
 ·split at h
  ·obtain ⟨hok,ho⟩:=eqV_cases h
   refine run_eql (fun op=>by cases op<;>rfl) ?_ ho
   unfold Op.equal Op.maxDepth
   rw [Op.equalIn]
   simp [run_underlying (under_bool hok)]
  ·cases h
 ·split at h
  ·rename_i a n c _ c' n' d
   obtain ⟨hok,ho⟩:=eqV_cases h
   rw [Bool.and_eq_true] at hok
   obtain ⟨e,he⟩:=under_slice hok.1
   cases c' with
   | some x=>simp at hok
   | none =>
   refine run_eql (fun op=>by cases op<;>rfl) ?_ ho
   unfold Op.equal Op.maxDepth
   rw [Op.equalIn]
   cases a<;>simp [run_underlying he]
  ·cases h
 ·split at h
  ·rename_i a _ c'
   obtain ⟨hok,ho⟩:=eqV_cases h
   rw [Bool.and_eq_true] at hok
   obtain ⟨k,e,he⟩:=under_map hok.1
   cases c' with
   | some x=>simp at hok
   | none =>
   refine run_eql (fun op=>by cases op<;>rfl) ?_ ho
   unfold Op.equal Op.maxDepth
   rw [Op.equalIn]
   cases a<;>simp [run_underlying he]
  ·cases h
 ·split at h
  ·rename_i a _ c'
   obtain ⟨hok,ho⟩:=eqV_cases h
   rw [Bool.and_eq_true] at hok
   obtain ⟨e,he⟩:=under_ptr hok.1
   cases c' with
   | some x=>simp at hok
   | none =>
   refine run_eql (fun op=>by cases op<;>rfl) ?_ ho
   unfold Op.equal Op.maxDepth
   rw [Op.equalIn]
   cases a<;>simp [run_underlying he]
  ·cases h
 ·split at h
  ·obtain ⟨hok,ho⟩:=eqV_cases h
   obtain ⟨e,he⟩:=under_iface hok
   refine run_eql (fun op=>by cases op<;>rfl) ?_ ho
   unfold Op.equal Op.maxDepth
   rw [Op.equalIn]
   simp [run_underlying he]
  ·cases h
 ·cases h

theorem run_eqGuard_nil {op:BinOp} {T:TypeId} {x y:Operand} (hy:isConstO y=true) (w:World) :
  (eqGuard op T x y .nilIface .nilIface).run P w = .ok () w:=by
 unfold eqGuard
 cases op<;>first|rfl|(cases y<;>first|(simp [isConstO] at hy;done)|(cases x<;>rfl))

theorem run_eqGuard_ne {op:BinOp} {T:TypeId} {x y:Operand} {a b v:Value} (h:binV P op T a b=some v) (w:World) :
  (eqGuard op T x y a b).run P w = .ok () w:=by
 unfold binV at h
 unfold eqGuard
 split at h
 all_goals first|(cases h;done)|skip
 all_goals (split at h<;>first|(cases h;done)|skip)
 all_goals (cases op<;>rfl)

theorem binNil_sound {op:BinOp} {T:TypeId} {x y:Operand} {a b v:Value} (h:binNil P op T y a b=some v) (w:World) :
  (do eqGuard op T x y a b;binOp op T a b:Sem Value).run P w = .ok v w:=by
 unfold binNil at h
 split at h
 ·rename_i ha
  split at h
  ·rename_i hb
   obtain rfl:a = .nilIface:=by cases a<;>simp_all [isNilI]
   obtain rfl:b = .nilIface:=by cases b<;>simp_all [isNilI]
   obtain ⟨hok,ho⟩:=eqV_cases h
   rw [Bool.and_eq_true] at hok
   obtain ⟨e,he⟩:=under_iface hok.1
   simp only [Sem.run_bind,run_eqGuard_nil hok.2,Result.andThen_ok]
   refine run_eql (fun op=>by cases op<;>rfl) ?_ ho
   unfold Op.equal Op.maxDepth
   rw [Op.equalIn]
   simp [run_underlying he]
  ·cases h
 ·simp only [Sem.run_bind,run_eqGuard_ne h,Result.andThen_ok]
  exact binV_sound h w

theorem WPr_value {dst:Option Nat} {ρ:Regs} {K:Regs→World→Prop} {s:Sem Value} {v:Value} {w w':World} (h:s.run P w = .ok v w') (hk:K (put ρ dst v) w') :
  WPr P dst ρ K ((do pure (.value (← s)):Sem Next).run P w):=by
 simp only [Sem.run_bind,h,Result.andThen_ok];exact hk

theorem addrK_elim {v:Value} {k:Addr→Prop} (h:addrK v k):∃ a,v = .pointer (some a)∧k a:=by
 unfold addrK at h;split at h
 ·exact ⟨_,rfl,h⟩
 ·exact h.elim
theorem optK_elim {α:Type} {v:Option α} {k:α→Prop} (h:optK v k):∃ a,v=some a∧k a:=by
 cases v with
 | none=>exact h.elim
 | some a=>exact ⟨a,rfl,h⟩
theorem intK_elim {v:Value} {k:IntKind→Int→Prop} (h:intK v k):∃ i n,v = .int i n∧k i n:=by
 unfold intK at h;split at h
 ·exact ⟨_,_,rfl,h⟩
 ·exact h.elim
theorem boolK_elim {v:Value} {k:Bool→Prop} (h:boolK v k):∃ a,v = .bool a∧k a:=by
 unfold boolK at h;split at h
 ·exact ⟨_,rfl,h⟩
 ·exact h.elim
theorem aggK_elim {v:Value} {k:Array Value→Prop} (h:aggK v k):∃ a,v = .agg a∧k a:=by
 unfold aggK at h
 split at h
 ·exact ⟨_,rfl,h⟩
 ·exact h.elim
theorem sliceK_elim {v:Value} {k:Option Addr→Nat→Nat→Prop} (h:sliceK v k):∃ a n c,v = .slice a n c∧k a n c:=by
 unfold sliceK at h;split at h
 ·exact ⟨_,_,_,rfl,h⟩
 ·exact h.elim
theorem tupleK_elim {v:Value} {k:Array Value→Prop} (h:tupleK v k):∃ a,v = .tuple a∧k a:=by
 unfold tupleK at h;split at h
 ·exact ⟨_,rfl,h⟩
 ·exact h.elim

theorem funcK_elim {v:Value} {k:FuncId→Array Value→Array Value→Prop} (h:funcK v k):∃ f a b,v = .func (.func f) a b∧k f a b:=by
 unfold funcK at h;split at h
 ·exact ⟨_,_,_,rfl,h⟩
 ·exact h.elim
theorem two_toList {vs:Array Value} {x y:Value} (hs:vs.size=2) (hx:vs[0]? = some x) (hy:vs[1]? = some y):vs.toList=[x,y]:=by
 obtain ⟨l⟩:=vs
 match l,hs with
 | [a,b],_=>simp at hx hy;simp [hx,hy]

theorem WPr_skip {dst:Option Nat} {ρ:Regs} {K:Regs→World→Prop} {s:Sem Unit} {w w':World} (h:s.run P w = .ok () w') (hk:K (put ρ dst undef) w') :
  WPr P dst ρ K ((do s;pure .skip:Sem Next).run P w):=by
 simp only [Sem.run_bind,h,Result.andThen_ok];exact hk

theorem run_alloc {T:TypeId} {z:Array Value} (h:zeroOf P T=some z) (w:World) :
  (Instr.alloc T true (.tuple #[])).run P w = .ok (.pointer (some ⟨w.heap.size,0,none⟩)) (w.alloc (.cells z T)):=by
 simp only [zeroOf,Option.map_eq_some_iff,Option.bind_eq_some_iff] at h
 obtain ⟨v,⟨i,hi,hz⟩,rfl⟩:=h
 simp only [Instr.alloc,Sem.run_bind,run_zero hi hz,Result.andThen_ok,newVar,newRow,newObj,Sem.run,Sem.run_pure]
 rfl

theorem foldl_wr (vs:List Value):∀ (k:Nat) (cs:Array Value) (off:Nat),(vs.zipIdx k).foldl (fun cs (x:Value × Nat)=>cs.setIfInBounds (off+x.2) x.1) cs=wrArr cs (off+k) vs:=by
 induction vs with
 | nil=>intro k cs off;rfl
 | cons v vs ih=>intro k cs off;simp only [List.zipIdx_cons,List.foldl_cons,wrArr];rw [ih];rfl

theorem fill_sound {pl:List (Nat × Nat)}:∀ (ps:List (Nat × Value)) (cells cs:Array Value),fillL pl cells ps=some cs→Instr.fill (fun i=>pl[i]?) cells ps=some cs:=by
 intro ps
 induction ps with
 | nil=>intro cells cs h;exact h
 | cons p ps ih =>
  obtain ⟨i,v⟩:=p
  intro cells cs h
  simp only [fillL] at h
  simp only [Instr.fill]
  cases hp:pl[i]? with
  | none=>simp [hp] at h
  | some x =>
   obtain ⟨off,size⟩:=x
   simp only [hp] at h ⊢
   split at h
   ·rename_i hc
    have hne:¬ ((v.cells.size != size)=true∨(decide (off+v.cells.size > cells.size))=true):=by simp [hc.1];omega
    have e:(v.cells.zipIdx.foldl (fun cs (x:Value × Nat)=>cs.setIfInBounds (off+x.2) x.1) cells)=wrArr cells off v.cells.toList:=by
     have:=foldl_wr v.cells.toList 0 cells off
     rw [Nat.add_zero] at this
     rw [← this,← Array.foldl_toList]
     simp
    have hcond:¬ ((v.cells.size≠size)∨(off+v.cells.size > cells.size)):=by omega
    simp only [Bool.or_eq_true,decide_eq_true_eq]
    rw [if_neg (by simpa using hcond)]
    rw [e]
    exact ih _ _ h
   ·cases h

theorem wrArr_two (a b:List Value):∀ (c:Array Value) (o:Nat),wrArr (wrArr c o a) (o+a.length) b=wrArr c o (a++b):=by
 induction a with
 | nil=>intro c o;rfl
 | cons x a ih=>intro c o;simp only [wrArr,List.cons_append,List.length_cons];rw [← ih];congr 1;omega

theorem fill_bsl {size:Nat}:∀ (ps:List (Nat × Value)) (k:Nat) (cells:Array Value) (cs:List Value),bsl size k ps=some cs→(k+ps.length) * size≤cells.size →
  Instr.fill (fun i=>some (i * size,size)) cells ps=some (wrArr cells (k * size) cs)∧cs.length=ps.length * size:=by
 intro ps
 induction ps with
 | nil=>intro k cells cs h _;simp only [bsl,Option.some.injEq] at h;subst h;exact ⟨rfl,by simp⟩
 | cons p ps ih =>
  obtain ⟨i,v⟩:=p
  intro k cells cs h hl
  simp only [bsl] at h
  split at h
  ·rename_i hc
   obtain ⟨rfl,hs⟩:=hc
   simp only [Option.map_eq_some_iff] at h
   obtain ⟨cs',h',rfl⟩:=h
   simp only [List.length_cons] at hl
   have e1:(i+(ps.length+1)) * size=i * size+ps.length * size+size:=by rw [Nat.add_mul,Nat.add_mul];omega
   have hle:(i+1+ps.length) * size≤cells.size:=by rw [Nat.add_mul,Nat.add_mul];omega
   have:=ih (i+1) (wrArr cells (i * size) v.cells.toList) cs' h' (by rw [wrArr_size];exact hle)
   refine ⟨?_,by simp only [List.length_append,List.length_cons,this.2,Array.length_toList,hs,Nat.add_mul];omega⟩
   have e:(v.cells.zipIdx.foldl (fun cs (x:Value × Nat)=>cs.setIfInBounds (i * size+x.2) x.1) cells)=wrArr cells (i * size) v.cells.toList:=by
    have:=foldl_wr v.cells.toList 0 cells (i * size)
    rw [Nat.add_zero] at this
    rw [← this,← Array.foldl_toList]
    simp
   simp only [Instr.fill,Bool.or_eq_true,decide_eq_true_eq]
   rw [if_neg (by simp [hs];omega),e,this.1]
   congr 1
   have h2:=wrArr_two v.cells.toList cs' cells (i * size)
   rw [← h2]
   congr 1
   rw [Array.length_toList,hs,Nat.add_mul];omega
  ·cases h

theorem wrArr_full0 {c:Array Value} {vs:List Value} (h:vs.length=c.size):wrArr c 0 vs=vs.toArray:=by
 have get:∀ (vs:List Value) (c:Array Value) (o i:Nat),(wrArr c o vs)[i]? = if o≤i∧i < o+vs.length∧i < c.size then vs[i - o]? else c[i]?:=by
  intro vs
  induction vs with
  | nil=>intro c o i;simp only [wrArr,List.length_nil];rw [if_neg (by omega)]
  | cons v vs ih =>
   intro c o i
   simp only [wrArr,ih,Array.size_setIfInBounds,List.length_cons,Array.getElem?_setIfInBounds]
   by_cases hi:i=o
   ·subst hi
    rw [if_neg (by omega)]
    by_cases hs:i < c.size
    ·simp [hs]
    ·simp [hs]
   ·by_cases h1:o+1≤i∧i < o+1+vs.length∧i < c.size
    ·rw [if_pos h1,if_pos (by omega)]
     obtain ⟨k,hk⟩:∃ k,i - o=k+1:=⟨i - o - 1,by omega⟩
     have hk2:i - (o+1)=k:=by omega
     simp [hk,hk2]
    ·rw [if_neg h1,if_neg (show ¬ o=i by omega),if_neg (show ¬ (o≤i∧i < o+(vs.length+1)∧i < c.size) by omega)]
 apply Array.ext_getElem?
 intro i
 rw [get]
 by_cases hi:i < c.size
 ·rw [if_pos (by omega)];simp
 ·rw [if_neg (by omega),Array.getElem?_eq_none (by omega)];simp;omega

theorem buildSlice_sound {T:TypeId} {e:TypeId × Nat} {cs:List Value} {n:Nat} {ps:Array (Nat × Value)} (he:slElem P T=some e) (hb:bsl e.2 0 ps.toList=some cs) (hn:ps.size=n) (hs:n * e.2≤16777216) (w:World) :
  (Instr.buildSlice T n ps).run P w = .ok (.slice (some ⟨w.heap.size,0,none⟩) n n) (w.alloc (.cells cs.toArray e.1)):=by
 simp only [slElem] at he
 split at he
 ·rename_i el hu
  simp only [Option.bind_eq_some_iff] at he
  obtain ⟨i,hi,he⟩:=he
  split at he
  ·rename_i hz
   obtain ⟨z,hz⟩:=Option.isSome_iff_exists.1 hz
   simp only [Option.some.injEq] at he
   subst he
   simp only [Instr.buildSlice,Sem.run_bind,run_underlying hu,Result.andThen_ok,run_sizeOf hi]
   rw [if_neg (by simp only at hs;omega)]
   have hl:ps.toList.length=n:=by simpa using hn
   have fin:∀ zero:Array Value,Instr.fill (fun j=>some (j * i.size,i.size)) ((Array.range (n * i.size)).map (fun j=>zero[j % zero.size]!)) ps.toList=some cs.toArray:=by
    intro zero
    obtain ⟨h1,h2⟩:=fill_bsl ps.toList 0 ((Array.range (n * i.size)).map (fun j=>zero[j % zero.size]!)) cs hb (by simp [hn])
    rw [h1,Nat.zero_mul,wrArr_full0 (by simp [h2,hn])]
   by_cases h0:n * i.size=0
   ·simp only [h0,if_true,Sem.run_bind,Sem.run_pure,Result.andThen_ok]
    have:=fin #[]
    rw [h0] at this
    simp only [this,Sem.run_bind,Result.andThen_ok,newRow,newObj,Sem.run,Sem.run_pure]
    rfl
   ·simp only [h0,if_false,Sem.run_bind,Sem.run_pure,Result.andThen_ok,run_zero hi hz,fin,newRow,newObj,Sem.run]
    rfl
  ·cases he
 ·cases he

theorem run_mapM_places : ∀ (fs:List Field) (pl:List (Nat × Nat)) (w:World),fs.mapM (fun f=>(P.info? f.type).map fun i=>(f.offset,i.size))=some pl →
  (fs.mapM (m:=Sem) fun f=>do pure (f.offset,← Go.sizeOf f.type)).run P w = .ok pl w:=by
 intro fs
 induction fs with
 | nil=>intro pl w h;simp at h;subst h;rfl
 | cons f fs ih =>
  intro pl w h
  simp only [List.mapM_cons,Option.bind_eq_bind,Option.bind_eq_some_iff,Option.map_eq_some_iff,Option.pure_def,Option.some.injEq] at h
  obtain ⟨x,⟨i,hi,rfl⟩,l,hl,rfl⟩:=h
  simp only [List.mapM_cons,Sem.run_bind,run_sizeOf hi,Result.andThen_ok,Sem.run_pure,ih l w hl]

theorem build_sound {T:TypeId} {z cs:Array Value} {pl:List (Nat × Nat)} {ps:Array (Nat × Value)} (hz:zeroOf P T=some z) (hp:placesOf P T=some pl) (hf:fillL pl z ps.toList=some cs) (w:World) :
  (Instr.build T ps).run P w = .ok (.agg cs) w:=by
 simp only [zeroOf,Option.map_eq_some_iff,Option.bind_eq_some_iff] at hz
 obtain ⟨v,⟨i,hi,hz⟩,rfl⟩:=hz
 unfold placesOf at hp
 split at hp
 ·rename_i fs hu
  simp only [Instr.build,Sem.run_bind,run_zero hi hz,Result.andThen_ok,run_underlying hu]
  rw [Array.mapM_eq_mapM_toList]
  simp only [Sem.run_map,Sem.run_bind,run_mapM_places fs.toList pl w hp,Result.andThen_ok,Sem.run_pure,List.getElem?_toArray,fill_sound _ _ _ hf]
 ·cases hp

theorem conv_sound {S T:TypeId} {v u:Value} (h:convV P S T v=some u) (w:World):(convert S T v).run P w = .ok u w:=by
 unfold convV at h
 split at h
 ·split at h
  ·rename_i k n hs
   obtain ⟨d,hd⟩:=Option.isSome_iff_exists.1 hs
   simp only [intT,Option.map_eq_some_iff] at h
   obtain ⟨k',hk,rfl⟩:=h
   split at hk
   ·rename_i k2 hu
    simp only [Option.some.injEq] at hk;subst hk
    simp only [convert,Sem.run_bind,run_underlying hd,run_underlying hu,Result.andThen_ok]
    rfl
   ·cases hk
  ·cases h
 ·cases h

theorem field_sound {T:TypeId} {k:Nat} {cs:Array Value} {u:Value} (h:fieldV P T k cs=some u) (w:World):(Instr.field T (.agg cs) k).run P w = .ok u w:=by
 unfold fieldV at h
 split at h
 all_goals first|(cases h;done)|skip
 all_goals
  rename_i ho
  unfold fieldO at ho
  split at ho
  ·rename_i fs hu
   obtain ⟨f,hf,ho⟩:=Option.bind_eq_some_iff.1 ho
   obtain ⟨q,hq,hqe⟩:=Option.map_eq_some_iff.1 ho
   cases hqe
   unfold loadKind at hq
   split at hq
   ·rename_i i ha hi
    cases hq<;>simp only [Instr.field,Sem.run_bind,run_underlying hu,Result.andThen_ok,hf,asAgg,Sem.run_pure,part,run_isAgg ha,Bool.false_eq_true,if_false,h]
   ·rename_i i ha hi
    cases hq<;>first
     | (simp only [Option.some.injEq] at h;subst h;simp only [Instr.field,Sem.run_bind,run_underlying hu,Result.andThen_ok,hf,asAgg,Sem.run_pure,part,run_isAgg ha,if_true,run_sizeOf hi])
   ·cases hq
  ·cases ho
theorem bnd_sound {v:Value} {y n:Nat} (h:bnd v y=some n) (code:Instr.sliceBound v y=Instr.sliceBound v y∨True) (c:BoundsCode) (w:World):(Instr.sliceBound v y c).run P w = .ok n w:=by
 unfold bnd at h
 split at h
 ·split at h
  ·rename_i k i hb
   simp only [Option.some.injEq] at h;subst h
   simp [Instr.sliceBound,asIntOf,hb]
  ·cases h
 ·cases h

theorem slice_sound {T:TypeId} {lo hi mx:Option Value} {v u:Value} (h:sliceV P T lo hi mx v=some u) (w:World):(Instr.sliceAt T v lo hi mx).run P w = .ok u w:=by
 unfold sliceV at h
 split at h
 ·rename_i a n c
  simp only [Option.bind_eq_some_iff,Option.some.injEq] at h
  obtain ⟨s,hs,m,hm,hh,h2,l,hl,rfl⟩:=h
  simp only [elemSize] at hs
  split at hs
  ·rename_i e he
   simp only [Option.map_eq_some_iff] at hs
   obtain ⟨inf,hi',rfl⟩:=hs
   have hb:(Instr.sliceBounds true n c lo hi mx).run P w = .ok (l,hh,m) w:=by
    unfold Instr.sliceBounds
    cases mx with
    | none =>
     simp only [Option.some.injEq] at hm;subst hm
     cases hi with
     | none =>
      simp only [Option.some.injEq] at h2;subst h2
      cases lo with
      | none=>simp only [Option.some.injEq] at hl;subst hl;simp
      | some v=>simp [bnd_sound hl (.inr trivial)]
     | some x =>
      cases lo with
      | none=>simp only [Option.some.injEq] at hl;subst hl;simp [bnd_sound h2 (.inr trivial)]
      | some v=>simp [bnd_sound h2 (.inr trivial),bnd_sound hl (.inr trivial)]
    | some y =>
     cases hi with
     | none=>cases h2
     | some x =>
      cases lo with
      | none=>simp only [Option.some.injEq] at hl;subst hl;simp [bnd_sound h2 (.inr trivial),bnd_sound hm (.inr trivial)]
      | some v=>simp [bnd_sound h2 (.inr trivial),bnd_sound hl (.inr trivial),bnd_sound hm (.inr trivial)]
   simp only [Instr.sliceAt,Sem.run_bind,run_underlying he,Result.andThen_ok,Instr.slice,hb,run_sizeOf hi',Sem.run_pure,slBase]
  ·cases hs
 ·split at h
  ·rename_i a hc
   simp only [Bool.and_eq_true,Option.isNone_iff_eq_none] at hc
   obtain ⟨⟨rfl,rfl⟩,rfl⟩:=hc
   simp only [Option.map_eq_some_iff] at h
   obtain ⟨n,hn,rfl⟩:=h
   unfold arrLen at hn
   split at hn
   ·rename_i n' e he
    split at hn
    ·rename_i hi
     simp only [Option.some.injEq] at hn;subst hn
     obtain ⟨inf,hinf⟩:=Option.isSome_iff_exists.1 hi
     simp [Instr.sliceAt,run_underlying he,Instr.sureAddr,Instr.sliceBounds,run_sizeOf hinf,Addr.add]
    ·cases hn
   ·cases hn
  ·cases h
 ·cases h

theorem run_callFunc {f:FuncId} (h:callable P f=true) (args:Array Value) (w:World):(callFunc f args).run P w = .ok (.enter f args) w:=by
 unfold callable at h
 split at h
 ·rename_i fn hf
  rw [Bool.and_eq_true] at h
  obtain ⟨h1,h2⟩:=h
  have h2':fn.body.isNone=false:=by cases hb:fn.body<;>simp_all
  simp only [callFunc,Sem.run_bind,program,Sem.run,Result.andThen_ok,hf,h2']
  rw [if_neg (by simpa using h1)]
  rfl
 ·cases h

theorem plain_run {dst:Option Nat} {b:Builtin} {args:Array Operand} {argTypes:Array TypeId} {type:TypeId} {pos:String} {after:Array Edge} {guard:Option (Nat × Bool)} {ρ:Regs} {v:Value} (hb:plainB b=true) (hv:bltK P b argTypes (args.map (ev ρ))=some v) (w:World) :
  (execOp (ev ρ) { dst:=dst,op:=.call { callee:=.builtin b,args:=args,argTypes:=argTypes },type:=type,pos:=pos,after:=after,guard:=guard }).run P w = .ok (.value v) w:=by
 cases b<;>first|(simp [plainB] at hb;done)|skip
 ·-- len
  simp only [bltK,Option.bind_eq_some_iff] at hv
  obtain ⟨T,hT,x,hx,hv⟩:=hv
  simp only [execOp,resolve,Sem.run_bind,Sem.run_pure,Result.andThen_ok,invoke,builtin,Builtin.len_,hT,hx]
  unfold lenV at hv
  split at hv
  ·split at hv
   ·rename_i ht
    obtain ⟨e,he⟩:=under_slice ht
    simp only [Option.some.injEq] at hv;subst hv
    simp [run_underlying he,goInt]
   ·cases hv
  ·split at hv
   ·rename_i ht
    have he:P.underlying T=some .string:=by unfold isStrT at ht;split at ht<;>simp_all
    simp only [Option.some.injEq] at hv;subst hv
    simp [run_underlying he,goInt]
   ·cases hv
  ·cases hv
 ·-- max
  simp only [bltK,Option.bind_eq_some_iff] at hv
  obtain ⟨x,hx,y,hy,hv⟩:=hv
  split at hv
  ·rename_i hs
   unfold maxV at hv
   split at hv
   ·simp only [Option.some.injEq] at hv;subst hv
    simp only [execOp,resolve,Sem.run_bind,Sem.run_pure,Result.andThen_ok,invoke,builtin,Builtin.max_,two_toList hs hx hy]
    simp [Builtin.max2]
   ·cases hv
  ·cases hv
 ·simp only [bltK,Option.bind_eq_some_iff] at hv
  obtain ⟨x,hx,y,hy,hv⟩:=hv
  split at hv
  ·rename_i hs
   unfold minV at hv
   split at hv
   ·simp only [Option.some.injEq] at hv;subst hv
    simp only [execOp,resolve,Sem.run_bind,Sem.run_pure,Result.andThen_ok,invoke,builtin,Builtin.min_,two_toList hs hx hy]
    simp [Builtin.min2]
   ·cases hv
  ·cases hv

theorem step_sound {o:Oper} {ρ:Regs} {w:World} {K:Regs→World→Prop} (h:stepK P o ρ w K):WPop P o ρ w K:=by
 obtain ⟨dst,op,type,pos,after,guard⟩:=o
 unfold WPop
 cases op<;>first|exact rawK.run h|exact h|skip
 case pick c a b =>
  obtain ⟨t,ht,hk⟩:=boolK_elim h
  simp only [execOp,ht,asBool,Sem.run_bind,Sem.run_pure,Result.andThen_ok]
  exact hk
 case alloc T =>
  obtain ⟨z,hz,hk⟩:=optK_elim h
  exact WPr_value (run_alloc hz w) hk
 case load T x =>
  obtain ⟨a,ha,h⟩:=addrK_elim h
  obtain ⟨v,hv,hk⟩:=optK_elim h
  refine WPr_value (s:=Instr.loadAt T (ev ρ x)) ?_ hk
  simp only [Instr.loadAt,ha,Instr.sureAddr,Sem.run_bind,Sem.run_pure,Result.andThen_ok]
  exact loadOf_sound hv
 case store T x y =>
  obtain ⟨a,ha,h⟩:=addrK_elim h
  obtain ⟨w',hv,hk⟩:=optK_elim h
  refine WPr_skip (s:=Instr.storeAt T (ev ρ x) (ev ρ y)) ?_ hk
  simp only [Instr.storeAt,ha,Instr.sureAddr,Sem.run_bind,Sem.run_pure,Result.andThen_ok]
  exact storeOf_sound hv
 case nilCheck x =>
  obtain ⟨a,ha,hk⟩:=addrK_elim h
  simp only [execOp,ha]
  exact hk
 case fieldAddr T x k =>
  obtain ⟨a,ha,h⟩:=addrK_elim h
  obtain ⟨n,hn,h⟩:=optK_elim h
  obtain ⟨a',ha',hk⟩:=optK_elim h
  refine WPr_value (s:=Instr.fieldAt T (ev ρ x) k) ?_ hk
  rw [ha]
  exact fieldOff_sound hn ha' w
 case indexAddr T x i =>
  obtain ⟨s,hs,h⟩:=optK_elim h
  obtain ⟨base,len,cap,hx,h⟩:=sliceK_elim h
  obtain ⟨k,j,hj,h⟩:=intK_elim h
  obtain ⟨jn,hjn,h⟩:=optK_elim h
  have hb:0≤j∧j < len:=by unfold idxO at hjn;split at hjn<;>simp_all
  have hjn:jn=j.toNat:=by rw [idxO_ok hb] at hjn;simpa using hjn.symm
  subst hjn
  obtain ⟨a,ha,h⟩:=optK_elim h
  obtain ⟨a',ha',hk⟩:=optK_elim h
  refine WPr_value (s:=Instr.indexAt T (ev ρ x) (ev ρ i)) ?_ hk
  simp only [elemSize] at hs
  split at hs
  ·rename_i e he
   simp only [Option.map_eq_some_iff] at hs
   obtain ⟨inf,hi,rfl⟩:=hs
   subst ha
   simp only [Instr.indexAt,hx,hj,asIntOf,Sem.run_bind,Sem.run_pure,Result.andThen_ok,run_underlying he]
   simp only [hb,and_self,if_true,Sem.run_bind,run_sizeOf hi,Result.andThen_ok,Sem.run_pure,add_of_addOff ha']
  ·cases hs
 case binOp op T x y yT =>
  obtain ⟨v,hv,hk⟩:=optK_elim h
  exact WPr_value (binNil_sound hv w) hk
 case unOp op T x =>
  cases op<;>first|exact rawK.run h|exact h|skip
  obtain ⟨t,ht,hk⟩:=boolK_elim h
  refine WPr_value (s:=Op.unary .not (ev ρ x)) (v:=.bool (!t)) ?_ hk
  rw [ht];rfl
 case extract x i =>
  obtain ⟨vs,hx,h⟩:=tupleK_elim h
  obtain ⟨v,hv,hk⟩:=optK_elim h
  refine WPr_value (s:=Instr.extract (ev ρ x) i) ?_ hk
  simp [Instr.extract,hx,hv]
 case makeInterface T x =>
  obtain ⟨h1,h2,hk⟩:=h
  refine WPr_value (s:=Instr.makeInterface T (ev ρ x)) ?_ hk
  obtain ⟨d,hd⟩:=Option.isSome_iff_exists.1 h2
  simp only [isIfaceT,hd] at h1
  simp only [Instr.makeInterface,Sem.run_bind,run_underlying hd,Result.andThen_ok]
  cases d<;>first|(simp at h1;done)|rfl
 case build T ps =>
  obtain ⟨z,hz,h⟩:=optK_elim h
  obtain ⟨pl,hp,h⟩:=optK_elim h
  obtain ⟨cs,hc,hk⟩:=optK_elim h
  exact WPr_value (build_sound hz hp (by simpa using hc) w) hk
 case buildSlice T n ps =>
  obtain ⟨e,he,h⟩:=optK_elim h
  obtain ⟨cs,hc,h⟩:=optK_elim h
  obtain ⟨⟨hn,hs⟩,hk⟩:=h
  exact WPr_value (buildSlice_sound he (by simpa using hc) (by simpa using hn) hs w) hk
 case convert S T x =>
  have h':convK P S T (ev ρ x) (fun v=>K (put ρ dst v) w) (rawK P { dst:=dst,op:=.convert S T x,type:=type,pos:=pos,after:=after,guard:=guard } ρ w K):=h
  unfold convK at h'
  split at h'
  ·rename_i i n hx
   obtain ⟨v,hv,hk⟩:=optK_elim h'
   refine WPr_value (s:=convert S T (ev ρ x)) ?_ hk
   rw [hx];exact conv_sound hv w
  ·exact h'.run
 case field T x k =>
  obtain ⟨cs,hcs,h⟩:=aggK_elim h
  obtain ⟨v,hv,hk⟩:=optK_elim h
  refine WPr_value (s:=Instr.field T (ev ρ x) k) ?_ hk
  rw [hcs];exact field_sound hv w
 case slice T x lo hi mx =>
  obtain ⟨v,hv,hk⟩:=optK_elim h
  exact WPr_value (slice_sound hv w) hk
 case call c =>
  obtain ⟨callee,args,argTypes⟩:=c
  cases callee with
  | invoke r m=>exact rawK.run h
  | value x =>
   obtain ⟨f,a,b,hx,h⟩:=funcK_elim h
   split at h
   rotate_left
   ·exact rawK.run h
   rename_i hf
   have:(execOp (ev ρ) { dst:=dst,op:=.call { callee:=.value x,args:=args,argTypes:=argTypes },type:=type,pos:=pos,after:=after,guard:=guard }).run P w = .ok (.enter f (a++args.map (ev ρ)++b)) w:=by
    simp only [execOp,resolve,hx,Deferred.ofValue,Sem.run_bind,Sem.run_pure,Result.andThen_ok,invoke,run_callFunc hf]
   rw [this]
   exact h
  | builtin b =>
   simp only [stepK] at h
   split at h
   ·rename_i hb
    simp only [plainV,Bool.and_eq_true] at hb
    obtain ⟨v,hv,hk⟩:=optK_elim h
    rw [plain_run hb.1 hv w]
    exact hk
   ·exact h.run

theorem WPseq_of_sq {ops:Array Oper}:∀ (os:List Oper) (K:Regs→World→Prop) (ρ:Regs) (w:World),WPsq P ops os K ρ w→WPseq P ops os K ρ w:=by
 intro os
 induction os with
 | nil=>intro K ρ w h;exact h
 | cons o os ih =>
  intro K ρ w h
  simp only [WPsq] at h
  simp only [WPseq]
  split
  ·rename_i hw
   rw [if_pos hw] at h
   have:=step_sound h
   unfold WPop at this ⊢
   revert this
   generalize (execOp (ev ρ) o).run P w=r
   intro this
   cases r with
   | halt x w'=>exact this
   | ok x w' =>
    cases x<;>first|exact ih _ _ _ this|exact this|skip
    case enter f args=>exact Fn.mono this fun v w' hh=>ih _ _ _ hh
    case row row args=>exact Rows.mono this fun v w' hh=>ih _ _ _ hh
  ·rename_i hw
   rw [if_neg hw] at h
   exact ih _ _ _ h

end
end Ms

namespace Ms
open Go Go.RowKit

structure Upd (S:Nat→Prop) (w w':World):Prop where
 os:w'.os=w.os
 tape:w'.tape=w.tape
 output:w'.output=w.output
 size:w.heap.size≤w'.heap.size
 keep:∀ b,b < w.heap.size→¬ S b→w'.heap[b]? = w.heap[b]?

abbrev Ext (w w':World):Prop:=Upd (fun _=>False) w w'

theorem Upd.refl (S:Nat→Prop) (w:World):Upd S w w:=⟨rfl,rfl,rfl,Nat.le_refl _,fun _ _ _=>rfl⟩
theorem Upd.trans {S:Nat→Prop} {a b c:World} (h:Upd S a b) (k:Upd S b c):Upd S a c :=
 ⟨k.os.trans h.os,k.tape.trans h.tape,k.output.trans h.output,Nat.le_trans h.size k.size,fun i hi hs=>(k.keep i (Nat.lt_of_lt_of_le hi h.size) hs).trans (h.keep i hi hs)⟩
theorem Upd.trans' {S S':Nat→Prop} {a b c:World} (h:Upd S a b) (k:Upd S' b c) (hs:∀ i,i < a.heap.size→S' i→S i):Upd S a c :=
 ⟨k.os.trans h.os,k.tape.trans h.tape,k.output.trans h.output,Nat.le_trans h.size k.size,fun i hi hn=>(k.keep i (Nat.lt_of_lt_of_le hi h.size) (fun h'=>hn (hs i hi h'))).trans (h.keep i hi hn)⟩
theorem Upd.mono {S S':Nat→Prop} {a b:World} (h:Upd S a b) (hs:∀ i,S i→S' i):Upd S' a b :=
 ⟨h.os,h.tape,h.output,h.size,fun i hi hn=>h.keep i hi (fun h'=>hn (hs i h'))⟩
theorem Ext.upd {S:Nat→Prop} {a b:World} (h:Ext a b):Upd S a b:=h.mono fun _ h=>h.elim
theorem Upd.drew {S:Nat→Prop} {a b:World} (h:Upd S a b):Upd S a b.drew:=⟨h.os,h.tape,h.output,h.size,h.keep⟩
theorem Upd.alloc {S:Nat→Prop} {a b:World} (h:Upd S a b) (o:Obj):Upd S a (b.alloc o) :=
 ⟨h.os,h.tape,h.output,by simp only [World.size_alloc];exact Nat.le_succ_of_le h.size,fun i hi hn=>by
  rw [Below.heap_alloc _ _ _ (Nat.lt_of_lt_of_le hi h.size)];exact h.keep i hi hn⟩

theorem heap_wr_ne {w:World} {b o:Nat} {vs:List Value} {i:Nat} (h:i≠b):(wr w b o vs).heap[i]? = w.heap[i]?:=by
 simp only [wr,Array.getElem?_modify];rw [if_neg (Ne.symm h)]
theorem size_wr (w:World) (b o:Nat) (vs:List Value):(wr w b o vs).heap.size=w.heap.size:=by simp [wr]
theorem size_drew (w:World):w.drew.heap.size=w.heap.size:=nr rfl

theorem Upd.wr {S:Nat→Prop} {a w:World} (h:Upd S a w) {b:Nat} (o:Nat) (vs:List Value) (hb:a.heap.size≤b∨S b):Upd S a (wr w b o vs) :=
 ⟨h.os,h.tape,h.output,by rw [size_wr];exact h.size,fun i hi hn=>by
  rw [heap_wr_ne (fun e=>by subst e;rcases hb with hb|hb;omega;exact hn hb)];exact h.keep i hi hn⟩

theorem blk_of_heap {w w':World} {b:Nat} (h:w'.heap[b]? = w.heap[b]?):blk w' b=blk w b:=by simp only [blk,h]
theorem Upd.blk {S:Nat→Prop} {w w':World} (h:Upd S w w') {b:Nat} (hb:b < w.heap.size) (hs:¬ S b):Ms.blk w' b=Ms.blk w b:=blk_of_heap (h.keep b hb hs)
theorem blk_lt {w:World} {b:Nat} {x:Blk} (h:blk w b=some x):b < w.heap.size:=by
 simp only [blk] at h
 rcases Nat.lt_or_ge b w.heap.size with h'|h'
 ·exact h'
 ·rw [Array.getElem?_eq_none h'] at h;cases h
theorem Upd.blk_some {S:Nat→Prop} {w w':World} (h:Upd S w w') {b:Nat} {x:Blk} (hb:Ms.blk w b=some x) (hs:¬ S b):Ms.blk w' b=some x:=by
 rw [h.blk (blk_lt hb) hs];exact hb

theorem blk_alloc_old {w:World} {o:Obj} {b:Nat} (h:b < w.heap.size):blk (w.alloc o) b=blk w b:=blk_of_heap (Below.heap_alloc _ _ _ h)
theorem blk_alloc_new {w:World} {c:Array Value} {T:TypeId} {fr:Nat × Nat} {b:Nat} (h:b=w.heap.size):blk (w.alloc (.cells c T fr)) b=some (c,T,fr):=by
 subst h;simp only [blk,World.alloc,Array.getElem?_push,if_true]
theorem blk_wr_ne {w:World} {b o:Nat} {vs:List Value} {i:Nat} (h:i≠b):blk (wr w b o vs) i=blk w i:=blk_of_heap (heap_wr_ne h)
theorem blk_wr_eq {w:World} {b o:Nat} {vs:List Value}:blk (wr w b o vs) b=(blk w b).map fun x=>(wrArr x.1 o vs,x.2):=by
 cases h:blk w b with
 | some x=>rw [blk_wr_same o vs h];rfl
 | none =>
  simp only [blk] at h
  simp only [blk,wr,Array.getElem?_modify,if_true]
  cases hb:w.heap[b]? with
  | none=>rfl
  | some y =>
   rw [hb] at h
   cases y<;>first|rfl|(cases h;done)
theorem blk_drew (w:World) (b:Nat):blk w.drew b=blk w b:=nr rfl

theorem wrArr_get (vs:List Value):∀ (c:Array Value) (o i:Nat),(wrArr c o vs)[i]? = if o≤i∧i < o+vs.length∧i < c.size then vs[i - o]? else c[i]?:=by
 induction vs with
 | nil=>intro c o i;simp only [wrArr,List.length_nil];rw [if_neg (by omega)]
 | cons v vs ih =>
  intro c o i
  simp only [wrArr,ih,Array.size_setIfInBounds,List.length_cons,Array.getElem?_setIfInBounds]
  by_cases hi:i=o
  ·subst hi
   rw [if_neg (by omega)]
   by_cases hs:i < c.size
   ·simp [hs]
   ·simp [hs]
  ·by_cases h1:o+1≤i∧i < o+1+vs.length∧i < c.size
   ·rw [if_pos h1,if_pos (by omega)]
    obtain ⟨k,hk⟩:∃ k,i - o=k+1:=⟨i - o - 1,by omega⟩
    have hk2:i - (o+1)=k:=by omega
    simp [hk,hk2]
   ·rw [if_neg h1,if_neg (show ¬ o=i by omega),if_neg (show ¬ (o≤i∧i < o+(vs.length+1)∧i < c.size) by omega)]

theorem wrArr_full {c:Array Value} {vs:List Value} (h:vs.length=c.size):wrArr c 0 vs=vs.toArray:=by
 apply Array.ext_getElem?
 intro i
 rw [wrArr_get]
 by_cases hi:i < c.size
 ·rw [if_pos (by omega)];simp
 ·rw [if_neg (by omega),Array.getElem?_eq_none (by omega)];simp;omega

/-! ### A function's end -/
def resV : List Value→Value
 | [v]=>v
 | vs=>.tuple vs.toArray
def resK (P:Program):List ResultVar→Regs→World→(List Value→Prop)→Prop
 | [],_,_,k=>k []
 | .tmp t :: rs,ρ,w,k=>resK P rs ρ w fun vs=>k (ρ t :: vs)
 | .cell t T :: rs,ρ,w,k=>addrK (ρ t) fun a=>optK (loadOf P T w a) fun v=>resK P rs ρ w fun vs=>k (v :: vs)

def resF (tmps:Array Value):ResultVar→Sem Value
 | .tmp t=>pure (tmps.getD t undef)
 | .cell c t=>do loadVar t (← asAddr (tmps.getD c undef))
theorem results_F (fn:Func) (tmps:Array Value):results fn tmps=(do let vs ← fn.results.mapM (resF tmps);pure (if h:vs.size=1 then vs[0] else .tuple vs):Sem Value):=by
 unfold results
 congr 1

theorem resK_sound {P:Program} {w:World} (a:Act):∀ (rs:List ResultVar) (k:List Value→Prop),resK P rs (regs a) w k →
  ∃ vs,(rs.mapM (resF a.tmps)).run P w = .ok vs w∧k vs:=by
 intro rs
 induction rs with
 | nil=>intro k h;exact ⟨[],rfl,h⟩
 | cons r rs ih =>
  intro k h
  cases r with
  | tmp t =>
   obtain ⟨vs,hv,hk⟩:=ih _ h
   refine ⟨_,?_,hk⟩
   simp only [List.mapM_cons,Sem.run_bind,resF,Sem.run_pure,Result.andThen_ok,hv]
   rfl
  | cell t T =>
   obtain ⟨ad,ha,h⟩:=addrK_elim h
   obtain ⟨v,hl,h⟩:=optK_elim h
   obtain ⟨vs,hv,hk⟩:=ih _ h
   refine ⟨_,?_,hk⟩
   have ha':a.tmps.getD t undef = .pointer (some ad):=ha
   have h1:(resF a.tmps (.cell t T)).run P w = .ok v w:=by
    simp only [resF,ha',asAddr,Sem.run_bind,Sem.run_pure,Result.andThen_ok,loadOf_sound hl]
   simp only [List.mapM_cons,Sem.run_bind,h1,Sem.run_pure,Result.andThen_ok,hv]

def endQ (P:Program) (rs:List ResultVar) (R:Value→World→Prop):Exit→Regs→World→Prop
 | .normal,ρ,w=>resK P rs ρ w fun vs=>R (resV vs) w
 | .ret,ρ,w=>resK P rs ρ w fun vs=>R (resV vs) w
 | _,_,_=>False

theorem Res_of {P:Program} {fn:Func} {rs:Array ResultVar} (hrs:fn.results=rs) {ρ:Regs} {w:World} {R:Value→World→Prop} (h:resK P rs.toList ρ w fun vs=>R (resV vs) w):Res P fn ρ w R:=by
 intro a ha
 subst ha
 obtain ⟨vs,hv,hk⟩:=resK_sound a _ _ h
 refine ⟨_,?_,hk⟩
 rw [results_F,hrs]
 simp only [Sem.run_bind]
 rw [Array.mapM_eq_mapM_toList]
 simp only [Sem.run_map,hv,Result.andThen_ok,Sem.run_pure]
 congr 1
 match vs with
 | []=>rfl
 | [v]=>rfl
 | v :: u :: vs=>simp [resV]

theorem fn_of_W {P:Program} {f:Nat} {fn:Func} {c:Code} {args:Array Value} {w:World} {R:Value→World→Prop} {rs:Array ResultVar}
  (hf:P.funcs[f]? = some fn) (hb:fn.body=some c) (hrs:fn.results=rs) {n:Nat} (hn:fn.ntmps=n) (ha:Nat.ble args.size n=true)
  (h:W P n c (endQ P rs.toList R) (start args) w):Fn P f args w R:=by
 subst hn
 refine fn_of_R hf hb (Nat.le_of_ble_eq_true ha) (h.mono fun e ρ w he => ?_)
 cases e<;>first|exact Res_of hrs he|exact he.elim

/-! ### The walking rules joined -/
theorem thenQ_normal (K:Regs→World→Prop) (Q:Exit→Regs→World→Prop) (ρ:Regs) (w:World):thenQ K Q .normal ρ w=K ρ w:=nr rfl
theorem thenQ_ret (K:Regs→World→Prop) (Q:Exit→Regs→World→Prop) (ρ:Regs) (w:World):thenQ K Q .ret ρ w=Q .ret ρ w:=nr rfl
theorem thenQ_exit (K:Regs→World→Prop) (Q:Exit→Regs→World→Prop) (i:Nat) (ρ:Regs) (w:World):thenQ K Q (.exit i) ρ w=Q (.exit i) ρ w:=nr rfl
theorem thenQ_goto (K:Regs→World→Prop) (Q:Exit→Regs→World→Prop) (i:Nat) (ρ:Regs) (w:World):thenQ K Q (.goto i) ρ w=Q (.goto i) ρ w:=nr rfl
theorem blockQ_normal (i:Nat) (Q:Exit→Regs→World→Prop) (ρ:Regs) (w:World):blockQ i Q .normal ρ w=Q .normal ρ w:=nr rfl
theorem blockQ_ret (i:Nat) (Q:Exit→Regs→World→Prop) (ρ:Regs) (w:World):blockQ i Q .ret ρ w=Q .ret ρ w:=nr rfl
theorem blockQ_exit (i:Nat) (Q:Exit→Regs→World→Prop) (ρ:Regs) (w:World):blockQ i Q (.exit i) ρ w=Q .normal ρ w:=by simp [blockQ]
theorem endQ_ret (P:Program) (rs:List ResultVar) (R:Value→World→Prop) (ρ:Regs) (w:World):endQ P rs R .ret ρ w=resK P rs ρ w fun vs=>R (resV vs) w:=nr rfl
theorem endQ_normal (P:Program) (rs:List ResultVar) (R:Value→World→Prop) (ρ:Regs) (w:World):endQ P rs R .normal ρ w=resK P rs ρ w fun vs=>R (resV vs) w:=nr rfl
theorem cells_agg (cs:Array Value):vcells (Value.agg cs)=cs:=nr rfl
theorem cells_int (k:IntKind) (n:Int):vcells (Value.int k n)=#[.int k n]:=nr rfl
theorem cells_bool (b:Bool):vcells (Value.bool b)=#[.bool b]:=nr rfl
theorem cells_slice (a:Option Addr) (n c:Nat):vcells (Value.slice a n c)=#[.slice a n c]:=nr rfl
theorem cells_pointer (a:Option Addr):vcells (Value.pointer a)=#[.pointer a]:=nr rfl
theorem cells_string (s:ByteArray):vcells (Value.string s)=#[.string s]:=nr rfl
theorem cells_map (s:Option Nat):vcells (Value.map s)=#[.map s]:=nr rfl
theorem cells_iface (t:TypeId) (v:Value):vcells (Value.iface t v)=#[.iface t v]:=nr rfl
theorem cells_func (f:Go.Fn) (a b:Array Value):vcells (Value.func f a b)=#[.func f a b]:=nr rfl
theorem addOff_none (b o n:Nat):addOff ⟨b,o,none⟩ n=some ⟨b,o+n,none⟩:=nr rfl
theorem W_congr {P:Program} {n:Nat} {c:Code} {Q:Exit→Regs→World→Prop} {ρ ρ':Regs} {w w':World} (h1:ρ=ρ') (h2:w=w'):W P n c Q ρ w=W P n c Q ρ' w':=by rw [h1,h2]
theorem optK_congr {α:Type} {a b:Option α} {k:α→Prop} (h:a=b):optK a k=optK b k:=by rw [h]
theorem addrK_congr {a b:Value} {k:Addr→Prop} (h:a=b):addrK a k=addrK b k:=by rw [h]
theorem intK_congr {a b:Value} {k:IntKind→Int→Prop} (h:a=b):intK a k=intK b k:=by rw [h]
theorem boolK_congr {a b:Value} {k:Bool→Prop} (h:a=b):boolK a k=boolK b k:=by rw [h]
theorem aggK_congr {a b:Value} {k:Array Value→Prop} (h:a=b):aggK a k=aggK b k:=by rw [h]
theorem sliceK_congr {a b:Value} {k:Option Addr→Nat→Nat→Prop} (h:a=b):sliceK a k=sliceK b k:=by rw [h]
theorem tupleK_congr {a b:Value} {k:Array Value→Prop} (h:a=b):tupleK a k=tupleK b k:=by rw [h]
theorem funcK_congr {a b:Value} {k:FuncId→Array Value→Array Value→Prop} (h:a=b):funcK a k=funcK b k:=by rw [h]
theorem Fn_congr {P:Program} {f:Nat} {a b:Array Value} {w w':World} {R:Value→World→Prop} (h:a=b) (h2:w=w'):Fn P f a w R=Fn P f b w' R:=by rw [h,h2]
theorem WPsq_congr {P:Program} {ops:Array Oper} {os:List Oper} {K:Regs→World→Prop} {ρ ρ':Regs} {w w':World} (h1:ρ=ρ') (h2:w=w'):WPsq P ops os K ρ w=WPsq P ops os K ρ' w':=by rw [h1,h2]
section
variable {P : Program} {n:Nat} {Q:Exit→Regs→World→Prop}

theorem W.seqR {id:Nat} {ops:Array Oper} {y:Code} {ρ:Regs} {w:World} (hf:fitsL n ops.toList=true)
  (h:WPsq P ops ops.toList (fun ρ w=>W P n y Q ρ w) ρ w):W P n (.seq (.region id ops false) y) Q ρ w :=
 W.seq (W.region hf (WPseq_of_sq _ _ _ _ h))
theorem W.regR {id:Nat} {ops:Array Oper} {ρ:Regs} {w:World} (hf:fitsL n ops.toList=true)
  (h:WPsq P ops ops.toList (Q .normal) ρ w):W P n (.region id ops false) Q ρ w :=
 W.region hf (WPseq_of_sq _ _ _ _ h)
theorem W.seqF {id:Nat} {ops:Array Oper} {y:Code} {ρ:Regs} {w:World}
  (h:WPsq P ops ops.toList (fun ρ w=>W P n y Q ρ w) ρ w) (hf:fitsL n ops.toList=true:=by rfl):W P n (.seq (.region id ops false) y) Q ρ w:=W.seqR hf h
theorem W.regF {id:Nat} {ops:Array Oper} {ρ:Regs} {w:World}
  (h:WPsq P ops ops.toList (Q .normal) ρ w) (hf:fitsL n ops.toList=true:=by rfl):W P n (.region id ops false) Q ρ w:=W.regR hf h
theorem W.condK {c:Operand} {x y:Code} {ρ:Regs} {w:World} (h:boolK (ev ρ c) fun t=>(t=true→W P n x Q ρ w)∧(t=false→W P n y Q ρ w)) :
  W P n (.cond c x y) Q ρ w:=by
 obtain ⟨t,ht,h1,h0⟩:=boolK_elim h
 exact W.cond ht h1 h0
end
end Ms

