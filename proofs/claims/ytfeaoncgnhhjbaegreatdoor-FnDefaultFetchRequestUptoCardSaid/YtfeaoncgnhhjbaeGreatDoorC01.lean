/- A part of the proof: see the last text. -/
import Derived.IntWalk
import Derived.Laws.MakeOwn
import Derived.Laws.OwnMore
import Derived.Laws.IdiomStrings
import Derived.Test.YtfeaoncgnhhjbaeGreatDoorC00
set_option linter.unusedSimpArgs false
set_option linter.unusedVariables false
namespace Ms
open Go Go.RowKit

abbrev Blocks := Nat→Prop
abbrev AnyB : Blocks:=fun _=>True

def byteV (b:UInt8):Value:=.int .u8 b.toNat

def Seg (ok:Blocks) (w:World) (a:Addr) (cs:List Value):Prop :=
 a.spot=none∧ok a.block∧∃ x,blk w a.block=some x∧∀ i,i < cs.length→x.1[a.off+i]? = cs[i]?

def Sl (ok:Blocks) (w:World) (size:Nat) (v:Value) (css:List (List Value)):Prop :=
 ∃ base cap,v = .slice base css.length cap∧css.length≤cap∧(∀ cs∈css,cs.length=size)∧(css=[]∨∃ a,base=some a∧Seg ok w a css.flatten)

def All2 {α β:Type} (R:α→β→Prop) (xs:List α) (ys:List β):Prop :=
 xs.length=ys.length∧∀ i (h1:i < xs.length) (h2:i < ys.length),R xs[i] ys[i]

def SlR {α:Type} (ok:Blocks) (w:World) (size:Nat) (R:α→List Value→Prop) (v:Value) (xs:List α):Prop :=
 ∃ css,Sl ok w size v css∧All2 R xs css

def ByteC (b:UInt8) (cs:List Value):Prop:=cs=[byteV b]
def BytesV (ok:Blocks) (w:World) (v:Value) (s:List UInt8):Prop:=Sl ok w 1 v (s.map fun b=>[byteV b])

abbrev TagD := Nat × List UInt8
def TagC (ok:Blocks) (w:World) (t:TagD) (cs:List Value):Prop:=∃ vv,cs=[.int .u32 t.1,vv]∧BytesV ok w vv t.2∧t.1 < 2 ^ 32
def TagsV (ok:Blocks) (w:World) (v:Value) (u:List TagD):Prop:=SlR ok w 2 (TagC ok w) v u

inductive Tree where
 | mk (n:Int) (s:List UInt8) (null:Bool) (l:List Tree) (u:List TagD)

def Tree.n : Tree→Int|.mk n _ _ _ _=>n
def Tree.s : Tree→List UInt8|.mk _ s _ _ _=>s
def Tree.null : Tree→Bool|.mk _ _ b _ _=>b
def Tree.l : Tree→List Tree|.mk _ _ _ l _=>l
def Tree.u : Tree→List TagD|.mk _ _ _ _ u=>u
def Tree.zero : Tree:=.mk 0 [] false [] []

inductive TreeC (ok:Blocks) (w:World):Tree→List Value→Prop
 | mk {n:Int} {s:List UInt8} {null:Bool} {l:List Tree} {u:List TagD} {vS vL vU:Value} {css:List (List Value)}
   (hn:IntKind.i64.wrap n=n) (hS:BytesV ok w vS s) (hL:Sl ok w 5 vL css) (hl:l.length=css.length)
   (he:∀ i (h1:i < l.length) (h2:i < css.length),TreeC ok w l[i] css[i]) (hU:TagsV ok w vU u) :
   TreeC ok w (.mk n s null l u) [.int .i64 n,vS,.bool null,vL,vU]

def TreesV (ok:Blocks) (w:World) (v:Value) (l:List Tree):Prop:=SlR ok w 5 (TreeC ok w) v l
def TreeV (ok:Blocks) (w:World) (v:Value) (t:Tree):Prop:=∃ cs,v = .agg cs.toArray∧TreeC ok w t cs

theorem TreeC.inv {ok:Blocks} {w:World} {t:Tree} {cs:List Value} (h:TreeC ok w t cs) :
  ∃ vS vL vU,cs=[.int .i64 t.n,vS,.bool t.null,vL,vU]∧IntKind.i64.wrap t.n=t.n∧BytesV ok w vS t.s∧TreesV ok w vL t.l∧TagsV ok w vU t.u:=by
 cases h with
 | mk hn hS hL hl he hU=>exact ⟨_,_,_,rfl,hn,hS,⟨_,hL,hl,he⟩,hU⟩
theorem TreeC.intro {ok:Blocks} {w:World} {n:Int} {s:List UInt8} {null:Bool} {l:List Tree} {u:List TagD} {vS vL vU:Value}
  (hn:IntKind.i64.wrap n=n) (hS:BytesV ok w vS s) (hL:TreesV ok w vL l) (hU:TagsV ok w vU u):TreeC ok w (.mk n s null l u) [.int .i64 n,vS,.bool null,vL,vU]:=by
 obtain ⟨css,h1,h2,h3⟩:=hL
 exact .mk hn hS h1 h2 h3 hU

inductive Fld where
 | mk (kind fr to null tag df of:Int) (sub:List Fld)
def Fld.kind : Fld→Int|.mk a _ _ _ _ _ _ _=>a
def Fld.fr : Fld→Int|.mk _ a _ _ _ _ _ _=>a
def Fld.to : Fld→Int|.mk _ _ a _ _ _ _ _=>a
def Fld.null : Fld→Int|.mk _ _ _ a _ _ _ _=>a
def Fld.tag : Fld→Int|.mk _ _ _ _ a _ _ _=>a
def Fld.df : Fld→Int|.mk _ _ _ _ _ a _ _=>a
def Fld.of : Fld→Int|.mk _ _ _ _ _ _ a _=>a
def Fld.sub : Fld→List Fld|.mk _ _ _ _ _ _ _ a=>a

inductive FldC (ok:Blocks) (w:World):Fld→List Value→Prop
 | mk {kind fr to null tag df of:Int} {sub:List Fld} {vs:Value} {css:List (List Value)} (hs:Sl ok w 8 vs css) (hl:sub.length=css.length)
   (he:∀ i (h1:i < sub.length) (h2:i < css.length),FldC ok w sub[i] css[i]) :
   FldC ok w (.mk kind fr to null tag df of sub) [.int .i64 kind,.int .i64 fr,.int .i64 to,.int .i64 null,.int .i64 tag,.int .i64 df,.int .i64 of,vs]
def FldsV (ok:Blocks) (w:World) (v:Value) (l:List Fld):Prop:=SlR ok w 8 (FldC ok w) v l
theorem FldC.inv {ok:Blocks} {w:World} {f:Fld} {cs:List Value} (h:FldC ok w f cs) :
  ∃ vs,cs=[.int .i64 f.kind,.int .i64 f.fr,.int .i64 f.to,.int .i64 f.null,.int .i64 f.tag,.int .i64 f.df,.int .i64 f.of,vs]∧FldsV ok w vs f.sub:=by
 cases h with
 | mk hs hl he=>exact ⟨_,rfl,_,hs,hl,he⟩
theorem FldC.intro {ok:Blocks} {w:World} {kind fr to null tag df of:Int} {sub:List Fld} {vs:Value} (h:FldsV ok w vs sub) :
  FldC ok w (.mk kind fr to null tag df of sub) [.int .i64 kind,.int .i64 fr,.int .i64 to,.int .i64 null,.int .i64 tag,.int .i64 df,.int .i64 of,vs]:=by
 obtain ⟨css,h1,h2,h3⟩:=h
 exact .mk h1 h2 h3

/-! ### They stay -/
def Keeps (ok:Blocks) (w w':World):Prop:=∀ b,b < w.heap.size→ok b→w'.heap[b]? = w.heap[b]?

theorem Upd.keeps {S:Nat→Prop} {w w':World} (h:Upd S w w') {ok:Blocks} (hs:∀ b,b < w.heap.size→ok b→¬ S b):Keeps ok w w' :=
 fun b hb hk=>h.keep b hb (hs b hb hk)
theorem Ext.keeps {w w':World} (h:Ext w w') (ok:Blocks):Keeps ok w w':=fun b hb _=>h.keep b hb (fun h=>h)

theorem Seg.keep {ok:Blocks} {w w':World} {a:Addr} {cs:List Value} (h:Seg ok w a cs) (k:Keeps ok w w'):Seg ok w' a cs:=by
 obtain ⟨h1,h2,x,hx,h3⟩:=h
 exact ⟨h1,h2,x,by rw [blk_of_heap (k a.block (blk_lt hx) h2)];exact hx,h3⟩
theorem Seg.weaken {ok ok':Blocks} {w:World} {a:Addr} {cs:List Value} (h:Seg ok w a cs) (k:∀ b,b < w.heap.size→ok b→ok' b):Seg ok' w a cs:=by
 obtain ⟨h1,h2,x,hx,h3⟩:=h
 exact ⟨h1,k _ (blk_lt hx) h2,x,hx,h3⟩
theorem Sl.keep {ok:Blocks} {w w':World} {size:Nat} {v:Value} {css:List (List Value)} (h:Sl ok w size v css) (k:Keeps ok w w'):Sl ok w' size v css:=by
 obtain ⟨b,c,h1,h2,h3,h4⟩:=h
 exact ⟨b,c,h1,h2,h3,h4.imp id fun ⟨a,ha,hs⟩=>⟨a,ha,hs.keep k⟩⟩
theorem Sl.weaken {ok ok':Blocks} {w:World} {size:Nat} {v:Value} {css:List (List Value)} (h:Sl ok w size v css) (k:∀ b,b < w.heap.size→ok b→ok' b):Sl ok' w size v css:=by
 obtain ⟨b,c,h1,h2,h3,h4⟩:=h
 exact ⟨b,c,h1,h2,h3,h4.imp id fun ⟨a,ha,hs⟩=>⟨a,ha,hs.weaken k⟩⟩
theorem All2.imp {α β:Type} {R S:α→β→Prop} {xs:List α} {ys:List β} (h:All2 R xs ys) (k:∀ x y,R x y→S x y):All2 S xs ys:=⟨h.1,fun i h1 h2=>k _ _ (h.2 i h1 h2)⟩
theorem BytesV.keep {ok:Blocks} {w w':World} {v:Value} {s:List UInt8} (h:BytesV ok w v s) (k:Keeps ok w w'):BytesV ok w' v s:=Sl.keep h k
theorem BytesV.weaken {ok ok':Blocks} {w:World} {v:Value} {s:List UInt8} (h:BytesV ok w v s) (k:∀ b,b < w.heap.size→ok b→ok' b):BytesV ok' w v s:=Sl.weaken h k
theorem TagC.keep {ok:Blocks} {w w':World} {t:TagD} {cs:List Value} (h:TagC ok w t cs) (k:Keeps ok w w'):TagC ok w' t cs:=by
 obtain ⟨v,h1,h2,h3⟩:=h;exact ⟨v,h1,h2.keep k,h3⟩
theorem TagC.weaken {ok ok':Blocks} {w:World} {t:TagD} {cs:List Value} (h:TagC ok w t cs) (k:∀ b,b < w.heap.size→ok b→ok' b):TagC ok' w t cs:=by
 obtain ⟨v,h1,h2,h3⟩:=h;exact ⟨v,h1,h2.weaken k,h3⟩
theorem TagsV.keep {ok:Blocks} {w w':World} {v:Value} {s:List TagD} (h:TagsV ok w v s) (k:Keeps ok w w'):TagsV ok w' v s:=by
 obtain ⟨css,h1,h2⟩:=h;exact ⟨css,h1.keep k,h2.imp fun _ _ h=>h.keep k⟩
theorem TagsV.weaken {ok ok':Blocks} {w:World} {v:Value} {s:List TagD} (h:TagsV ok w v s) (k:∀ b,b < w.heap.size→ok b→ok' b):TagsV ok' w v s:=by
 obtain ⟨css,h1,h2⟩:=h;exact ⟨css,h1.weaken k,h2.imp fun _ _ h=>h.weaken k⟩
theorem TreeC.keep {ok:Blocks} {w w':World} (k:Keeps ok w w') {t:Tree} {cs:List Value} (h:TreeC ok w t cs):TreeC ok w' t cs:=by
 induction h with
 | mk hn hS hL hl he hU ih=>exact .mk hn (hS.keep k) (hL.keep k) hl (fun i h1 h2=>ih i h1 h2) (hU.keep k)
theorem TreeC.weaken {ok ok':Blocks} {w:World} (k:∀ b,b < w.heap.size→ok b→ok' b) {t:Tree} {cs:List Value} (h:TreeC ok w t cs):TreeC ok' w t cs:=by
 induction h with
 | mk hn hS hL hl he hU ih=>exact .mk hn (hS.weaken k) (hL.weaken k) hl (fun i h1 h2=>ih i h1 h2) (hU.weaken k)
theorem TreesV.keep {ok:Blocks} {w w':World} {v:Value} {l:List Tree} (h:TreesV ok w v l) (k:Keeps ok w w'):TreesV ok w' v l:=by
 obtain ⟨css,h1,h2⟩:=h;exact ⟨css,h1.keep k,h2.imp fun _ _ h=>h.keep k⟩
theorem TreesV.weaken {ok ok':Blocks} {w:World} {v:Value} {l:List Tree} (h:TreesV ok w v l) (k:∀ b,b < w.heap.size→ok b→ok' b):TreesV ok' w v l:=by
 obtain ⟨css,h1,h2⟩:=h;exact ⟨css,h1.weaken k,h2.imp fun _ _ h=>h.weaken k⟩
theorem TreeV.keep {ok:Blocks} {w w':World} {v:Value} {t:Tree} (h:TreeV ok w v t) (k:Keeps ok w w'):TreeV ok w' v t:=by
 obtain ⟨cs,h1,h2⟩:=h;exact ⟨cs,h1,h2.keep k⟩
theorem TreeV.weaken {ok ok':Blocks} {w:World} {v:Value} {t:Tree} (h:TreeV ok w v t) (k:∀ b,b < w.heap.size→ok b→ok' b):TreeV ok' w v t:=by
 obtain ⟨cs,h1,h2⟩:=h;exact ⟨cs,h1,h2.weaken k⟩
theorem FldC.keep {ok:Blocks} {w w':World} (k:Keeps ok w w') {t:Fld} {cs:List Value} (h:FldC ok w t cs):FldC ok w' t cs:=by
 induction h with
 | mk hs hl he ih=>exact .mk (hs.keep k) hl (fun i h1 h2=>ih i h1 h2)
theorem FldsV.keep {ok:Blocks} {w w':World} {v:Value} {l:List Fld} (h:FldsV ok w v l) (k:Keeps ok w w'):FldsV ok w' v l:=by
 obtain ⟨css,h1,h2⟩:=h;exact ⟨css,h1.keep k,h2.imp fun _ _ h=>h.keep k⟩

/-! ### Reading an element -/
theorem flatten_get {css:List (List Value)} {size:Nat} (hs:∀ cs∈css,cs.length=size):∀ (i:Nat) (hi:i < css.length) (j:Nat),j < size→css.flatten[i * size+j]? = (css[i])[j]?:=by
 induction css with
 | nil=>intro i hi;simp at hi
 | cons c css ih =>
  intro i hi j hj
  have hc:c.length=size:=hs c (by simp)
  cases i with
  | zero=>simp [List.getElem?_append,hc,hj]
  | succ i =>
   have:¬ (i+1) * size+j < c.length:=by rw [hc,Nat.succ_mul];omega
   simp only [List.flatten_cons,List.getElem?_append,this,if_false,List.getElem_cons_succ]
   rw [show (i+1) * size+j - c.length=i * size+j from by rw [hc,Nat.succ_mul];omega]
   exact ih (fun cs h=>hs cs (by simp [h])) i (by simpa using hi) j hj
theorem flatten_len {css:List (List Value)} {size:Nat} (hs:∀ cs∈css,cs.length=size):css.flatten.length=css.length * size:=by
 induction css with
 | nil=>simp
 | cons c css ih=>simp only [List.flatten_cons,List.length_append,List.length_cons,hs c (by simp),ih (fun cs h=>hs cs (by simp [h])),Nat.succ_mul];omega

theorem Sl.get {ok:Blocks} {w:World} {size:Nat} {base:Option Addr} {n cap:Nat} {css:List (List Value)} (hz:0 < size) (h:Sl ok w size (.slice base n cap) css) {i:Nat} (hi:i < css.length) :
  n=css.length∧∃ b o x,base=some ⟨b,o,none⟩∧ok b∧blk w b=some x∧o+i * size+size≤x.1.size∧x.1.extract (o+i * size) (o+i * size+size)=(css[i]).toArray ∧
   ∀ j,j < size→x.1[o+i * size+j]? = (css[i])[j]?:=by
 obtain ⟨base',cap',h1,h2,h3,h4⟩:=h
 cases h1
 refine ⟨rfl,?_⟩
 rcases h4 with h4|⟨a,ha,hspot,hok,x,hx,h5⟩
 ·subst h4;simp at hi
 ·obtain ⟨b,o,sp⟩:=a
  simp only at hspot;subst hspot
  have hlen:=flatten_len h3
  have hci:(css[i]).length=size:=h3 _ (List.getElem_mem hi)
  have hmul:i * size+size≤css.length * size:=by
   have:(i+1) * size≤css.length * size:=Nat.mul_le_mul_right _ hi
   rw [Nat.succ_mul] at this;exact this
  have key:∀ j,j < size→x.1[o+i * size+j]? = (css[i])[j]?:=fun j hj=>by
   have:=h5 (i * size+j) (by omega)
   rw [← Nat.add_assoc] at this
   rw [this];exact flatten_get h3 i hi j hj
  refine ⟨b,o,x,ha,hok,hx,?_,?_,key⟩
  ·have:=key (size - 1) (by omega)
   have hsome:((css[i])[size - 1]?).isSome:=by simp [hci];omega
   rw [← this] at hsome
   have:o+i * size+(size - 1) < x.1.size:=by
    rcases Nat.lt_or_ge (o+i * size+(size - 1)) x.1.size with h|h
    ·exact h
    ·rw [Array.getElem?_eq_none h] at hsome;simp at hsome
   omega
  ·apply Array.ext_getElem?
   intro j
   by_cases hj:j < size
   ·have:=key j hj
    simp only [Array.getElem?_extract,List.getElem?_toArray]
    rw [← this]
    simp;omega
   ·have h1:(css[i]).toArray[j]? = none:=by simp [hci];omega
    rw [h1]
    simp;omega


def Own (B:Nat) (w:World) (E:TypeId) (size:Nat) (v:Value) (n:Nat) (cs:List Value):Prop :=
 cs.length=n * size∧((v = .slice none 0 0∧n=0)∨∃ g cap rest fr,v = .slice (some ⟨g,0,none⟩) n cap∧B≤g∧blk w g=some ((cs++rest).toArray,E,fr) ∧
  cs.length+rest.length=cap * size∧thaw fr 0 (cap * size)=true∧n≤cap)

def ownB (v:Value) (b:Nat):Prop:=∃ a n c,v = .slice (some a) n c∧b=a.block

theorem Own.nil (B:Nat) (w:World) (E:TypeId) (size:Nat):Own B w E size (.slice none 0 0) 0 []:=⟨by simp,.inl ⟨rfl,rfl⟩⟩
theorem Own.shape {B:Nat} {w:World} {E:TypeId} {size:Nat} {v:Value} {n:Nat} {cs:List Value} (h:Own B w E size v n cs):∃ a c,v = .slice a n c∧n≤c:=by
 rcases h.2 with ⟨h1,h0⟩|⟨g,cap,rest,fr,h1,_,_,_,_,h2⟩
 ·subst h0;exact ⟨_,_,h1,Nat.le_refl _⟩
 ·exact ⟨_,_,h1,h2⟩
theorem Own.keep {B:Nat} {w w':World} {E:TypeId} {size:Nat} {v:Value} {n:Nat} {cs:List Value} (h:Own B w E size v n cs) (k:∀ b,ownB v b→b < w.heap.size→w'.heap[b]? = w.heap[b]?):Own B w' E size v n cs:=by
 refine ⟨h.1,h.2.imp id ?_⟩
 rintro ⟨g,cap,rest,fr,h1,h2,h3,h4⟩
 exact ⟨g,cap,rest,fr,h1,h2,by rw [blk_of_heap (k g ⟨_,_,_,h1,rfl⟩ (blk_lt h3))];exact h3,h4⟩
theorem Own.above {B:Nat} {w:World} {E:TypeId} {size:Nat} {v:Value} {n:Nat} {cs:List Value} (h:Own B w E size v n cs) {b:Nat} (hb:ownB v b):B≤b:=by
 obtain ⟨a,m,c,rfl,rfl⟩:=hb
 rcases h.2 with ⟨h,_⟩|⟨g,cap,rest,fr,h1,h2,_⟩
 ·cases h
 ·cases h1;exact h2
theorem Own.below {B:Nat} {w:World} {E:TypeId} {size:Nat} {v:Value} {n:Nat} {cs:List Value} (h:Own B w E size v n cs) {b:Nat} (hb:ownB v b):b < w.heap.size:=by
 obtain ⟨a,m,c,rfl,rfl⟩:=hb
 rcases h.2 with ⟨h,_⟩|⟨g,cap,rest,fr,h1,h2,h3,_⟩
 ·cases h
 ·cases h1;exact blk_lt h3
theorem Own.sl {B:Nat} {w:World} {E:TypeId} {size:Nat} {v:Value} {css:List (List Value)} (h:Own B w E size v css.length css.flatten) (hs:∀ cs∈css,cs.length=size) {ok:Blocks} (hok:∀ b,ownB v b→ok b):Sl ok w size v css:=by
 rcases h.2 with ⟨h1,h2⟩|⟨g,cap,rest,fr,h1,h2,h3,h4,h5,h6⟩
 ·exact ⟨none,0,by rw [h1,h2],by omega,hs,.inl (List.eq_nil_of_length_eq_zero h2)⟩
 ·refine ⟨_,_,h1,h6,hs,.inr ⟨_,rfl,rfl,hok g ⟨_,_,_,h1,rfl⟩,_,h3,fun i hi => ?_⟩⟩
  simp only [Nat.zero_add,List.getElem?_toArray,List.getElem?_append,hi,if_true]
theorem flatten_bytes (s:List UInt8):(s.map fun b=>[byteV b]).flatten=s.map byteV:=by
 induction s with
 | nil=>rfl
 | cons b s ih=>simp only [List.map_cons,List.flatten_cons,ih];rfl
theorem Own.bytes {B:Nat} {w:World} {E:TypeId} {v:Value} {s:List UInt8} (h:Own B w E 1 v s.length (s.map byteV)) {ok:Blocks} (hok:∀ b,ownB v b→ok b):BytesV ok w v s:=by
 refine Own.sl (css:=s.map fun b=>[byteV b]) (E:=E) (B:=B) ?_ (by simp) hok
 rw [flatten_bytes];simpa using h

def bytesOf (s:ByteArray):List UInt8:=s.data.toList

def Src (w:World) (size:Nat) (x:Value) (m:Nat) (news:List Value):Prop :=
  news.length=m * size∧news.all flat=true ∧
  ((∃ base n cap,x = .slice base n cap∧m=n∧(news=[]∨∃ a,base=some a∧Seg AnyB w a news)) ∨
   (∃ s,x = .string s∧m=s.size∧size=1∧news=(bytesOf s).map byteV))

theorem Src.keep {w w':World} {size:Nat} {x:Value} {m:Nat} {news:List Value} (h:Src w size x m news) (k:Keeps AnyB w w'):Src w' size x m news:=by
 obtain ⟨h1,h2,h3⟩:=h
 refine ⟨h1,h2,h3.imp ?_ id⟩
 rintro ⟨b,n,c,h4,h5,h6⟩
 exact ⟨b,n,c,h4,h5,h6.imp id fun ⟨a,ha,hs⟩=>⟨a,ha,hs.keep k⟩⟩
theorem all_flatten {css:List (List Value)} (h:∀ cs∈css,cs.all flat=true):css.flatten.all flat=true:=by
 induction css with
 | nil=>rfl
 | cons c css ih=>simp only [List.flatten_cons,List.all_append,h c (by simp),ih (fun cs hc=>h cs (by simp [hc])),Bool.and_self]
theorem Sl.src {ok:Blocks} {w:World} {size:Nat} {x:Value} {css:List (List Value)} (h:Sl ok w size x css) (hf:∀ cs∈css,cs.all flat=true):Src w size x css.length css.flatten:=by
 obtain ⟨b,c,h1,h2,h3,h4⟩:=h
 refine ⟨flatten_len h3,all_flatten hf,.inl ⟨b,_,c,h1,rfl,?_⟩⟩
 rcases h4 with rfl|⟨a,ha,hs⟩
 ·exact .inl rfl
 ·exact .inr ⟨a,ha,hs.weaken fun _ _ _=>trivial⟩
theorem BytesV.src {ok:Blocks} {w:World} {x:Value} {s:List UInt8} (h:BytesV ok w x s):Src w 1 x s.length (s.map byteV):=by
 have:=Sl.src h (by intro cs hc;simp only [List.mem_map] at hc;obtain ⟨b,_,rfl⟩:=hc;rfl)
 rw [flatten_bytes,List.length_map] at this
 exact this
theorem Src.string (w:World) (s:ByteArray):Src w 1 (.string s) s.size ((bytesOf s).map byteV):=by
 refine ⟨by simp [bytesOf],?_,.inr ⟨s,rfl,rfl,rfl,rfl⟩⟩
 simp only [List.all_map,List.all_eq_true]
 intro b _;rfl

structure AppT (P:Program) (T X E:TypeId) (size bytes:Nat):Prop where
 slice:P.underlying T=some (.slice E)
 info:∃ i z,P.info? E=some i∧i.size=size∧i.bytes=bytes∧i.zero=some z∧z.cells.size=size
 pos:0 < size
 noInt:(∃ e,P.underlying X=some (.slice e))∨P.underlying X=some .string
 wide:0 < bytes

def appOk (P:Program) (T X E:TypeId) (size bytes:Nat):Bool :=
 match P.underlying T,P.info? E,P.underlying X with
 | some (.slice e),some i,some d=>Nat.beq e E && Nat.beq i.size size && Nat.beq i.bytes bytes && (match i.zero with|some z=>Nat.beq z.cells.size size|none=>false) && Nat.blt 0 size && Nat.blt 0 bytes &&
  (match d with|.slice _=>true|.string=>true|_=>false)
 | _,_,_=>false
theorem AppT.of {P:Program} {T X E:TypeId} {size bytes:Nat} (h:appOk P T X E size bytes=true):AppT P T X E size bytes:=by
 unfold appOk at h
 split at h
 ·rename_i e i d h1 h2 h3
  simp only [Bool.and_eq_true] at h
  obtain ⟨⟨⟨⟨⟨⟨he,hs⟩,hb⟩,hz⟩,hp⟩,hw⟩,hd⟩:=h
  have he:=Nat.eq_of_beq_eq_true he
  have hs:=Nat.eq_of_beq_eq_true hs
  have hb:=Nat.eq_of_beq_eq_true hb
  subst he
  split at hz
  ·rename_i z hzz
   refine ⟨h1,⟨i,z,h2,hs,hb,hzz,Nat.eq_of_beq_eq_true hz⟩,by simpa [Nat.blt_eq] using hp,?_,by simpa [Nat.blt_eq] using hw⟩
   split at hd
   ·exact .inl ⟨_,h3⟩
   ·exact .inr h3
   ·cases hd
  ·cases hz
 ·cases h

theorem growBy_le (n:Nat):∀ r c,Builtin.growBy n r c≤max c (n+(n+768) / 4):=by
 intro r
 induction r with
 | zero=>intro c;simp [Builtin.growBy];omega
 | succ r ih =>
  intro c
  simp only [Builtin.growBy]
  split
  ·omega
  ·have:=ih (c+(c+768) / 4);omega
theorem nextslicecap_le {need old:Nat} (h:old < need):Builtin.nextslicecap need old≤2 * need+512:=by
 unfold Builtin.nextslicecap
 split
 ·omega
 ·split
  ·omega
  ·have:=growBy_le need 4 old;omega

theorem zeroCells_size (z:Array Value) (n:Nat):(Builtin.zeroCells z n).size=n * z.size:=by simp [Builtin.zeroCells]

theorem wrArr_append (cs rest news:List Value) (h:news.length≤rest.length):wrArr (cs++rest).toArray cs.length news=((cs++news)++rest.drop news.length).toArray:=by
 apply Array.ext_getElem?
 intro i
 rw [wrArr_get]
 simp only [List.size_toArray,List.length_append,List.getElem?_toArray]
 by_cases h1:i < cs.length
 ·rw [if_neg (by omega)];simp [List.getElem?_append,h1,Nat.lt_add_right]
 ·by_cases h2:i < cs.length+news.length
  ·rw [if_pos (by omega)]
   simp only [List.getElem?_append,h1,List.length_append,h2,if_true,if_false]
  ·rw [if_neg (by omega)]
   simp only [List.getElem?_append,h1,List.length_append,h2,if_false,List.getElem?_drop]
   congr 1;omega

section
variable {P : Program}

theorem run_drew {α:Type} {q:Question} {k:Nat→Sem α} {w:World} (hq:q.forced=false) :
  (Sem.choose q k).run P w=(k (q.cut (w.tape w.drawn q))).run P w.drew:=by
 simp only [Sem.run,hq,Bool.false_eq_true,if_false];rfl

theorem run_firstCells {w:World} {size m:Nat} {x:Value} {news:List Value} (h:Src w size x m news):(Builtin.firstCells size m x).run P w = .ok news.toArray w:=by
 obtain ⟨h1,h2,h3⟩:=h
 rcases h3 with ⟨base,n,cap,rfl,rfl,h3⟩|⟨s,rfl,rfl,rfl,rfl⟩
 ·rcases h3 with rfl|⟨a,rfl,hspot,_,x,hx,hc⟩
  ·cases base with
   | none=>rfl
   | some a =>
    simp only [Builtin.firstCells,loadCells,← h1]
    rfl
  ·obtain ⟨b,o,sp⟩:=a
   simp only at hspot;subst hspot
   simp only [Builtin.firstCells,loadCells,← h1]
   rcases Nat.eq_zero_or_pos news.length with hz|hz
   ·have:news=[]:=List.eq_nil_of_length_eq_zero hz
    subst this;rfl
   have hle:o+0+news.length≤x.1.size:=by
    have:=hc (news.length - 1) (by omega)
    have hs:(news[news.length - 1]?).isSome:=by simp;omega
    rw [← this] at hs
    rcases Nat.lt_or_ge (o+(news.length - 1)) x.1.size with h|h
    ·omega
    ·rw [Array.getElem?_eq_none h] at hs;simp at hs
   rw [run_loadCells hx news.length 0 #[] hle]
   congr 1
   apply Array.ext_getElem?
   intro i
   by_cases hi:i < news.length
   ·have:=hc i hi
    simp only [Array.empty_append,Array.getElem?_extract,List.getElem?_toArray,Nat.add_zero]
    rw [← this];simp;omega
   ·have:news.toArray[i]? = none:=by simp;omega
    rw [this];simp;omega
 ·simp only [Builtin.firstCells,Sem.run_pure]
  congr 1
  have he:s.extract 0 s.size=s:=by simp
  rw [he]
  apply Array.ext_getElem?
  intro i
  simp only [Array.getElem?_map,List.getElem?_toArray,List.getElem?_map,bytesOf,Array.getElem?_toList]
  rfl

theorem run_lenOf {w:World} {size m:Nat} {x:Value} {news:List Value} (h:Src w size x m news):(Builtin.lenOf x).run P w = .ok m w:=by
 obtain ⟨h1,h2,h3⟩:=h
 rcases h3 with ⟨base,n,cap,rfl,rfl,h3⟩|⟨s,rfl,rfl,rfl,rfl⟩<;>rfl

theorem Own.seg {B:Nat} {w:World} {E:TypeId} {size:Nat} {v:Value} {n:Nat} {cs:List Value} (h:Own B w E size v n cs) (hf:cs.all flat=true):Src w size v n cs:=by
 refine ⟨h.1,hf,.inl ?_⟩
 rcases h.2 with ⟨rfl,h0⟩|⟨g,cap,rest,fr,rfl,_,h3,_,_,_⟩
 ·subst h0;exact ⟨_,_,_,rfl,rfl,.inl (List.eq_nil_of_length_eq_zero (by simpa using h.1))⟩
 ·refine ⟨_,_,_,rfl,rfl,.inr ⟨_,rfl,rfl,trivial,_,h3,fun i hi => ?_⟩⟩
  simp only [Nat.zero_add,List.getElem?_toArray,List.getElem?_append,hi,if_true]

theorem Src.blk {w:World} {size g m c:Nat} {cs:List Value} {T:TypeId} {fr:Nat × Nat} (h:blk w g=some (cs.toArray,T,fr)) (hl:cs.length=m * size) (hf:cs.all flat=true):Src w size (.slice (some ⟨g,0,none⟩) m c) m cs :=
 ⟨hl,hf,.inl ⟨_,_,_,rfl,rfl,.inr ⟨_,rfl,rfl,trivial,_,h,fun i _=>by simp⟩⟩⟩
theorem Own.blk {B:Nat} {w:World} {E:TypeId} {size g n:Nat} {cs:List Value} (h:Ms.blk w g=some (cs.toArray,E,(0,0))) (hl:cs.length=n * size) (hB:B≤g):Own B w E size (.slice (some ⟨g,0,none⟩) n n) n cs :=
 ⟨hl,.inr ⟨g,n,[],(0,0),rfl,hB,by simpa using h,by simpa using hl,by simp [thaw,Nat.ble],Nat.le_refl _⟩⟩
theorem Own.mono {B B':Nat} {w:World} {E:TypeId} {size:Nat} {v:Value} {n:Nat} {cs:List Value} (h:Own B w E size v n cs) (hB:B'≤B):Own B' w E size v n cs :=
 ⟨h.1,h.2.imp id fun ⟨g,cap,rest,fr,h1,h2,h3⟩=>⟨g,cap,rest,fr,h1,Nat.le_trans hB h2,h3⟩⟩
abbrev OwnBy (E:TypeId) (B:Nat) (w:World) (v:Value) (s:List UInt8):Prop:=Own B w E 1 v s.length (s.map byteV)

theorem keeps_drew (w:World):Keeps AnyB w w.drew:=fun _ _ _=>rfl

theorem run_append_prefix {T X E:TypeId} {size bytes:Nat} (F:AppT P T X E size bytes) {w:World} {a:Option Addr} {n cap m:Nat} {x:Value} {news:List Value} (hx:Src w size x m news) (hle:n+m≤cap∨Builtin.nextslicecap (n+m) cap * bytes≤2 ^ 48) (ty:TypeId) {ei:TypeInfo} (hi:P.info? E=some ei) (hby:ei.bytes=bytes) (hsz:ei.size=size) :
  (Builtin.append_ #[T,X] ty #[.slice a n cap,x]).run P w =
   if n+m≤cap then (do
    let new ← Builtin.firstCells size m x
    if let some a:=a then storeCells (a.add (n * size)) new.toList
    pure (.slice a (n+m) cap):Sem Value).run P w
   else (do
    let newCap ← choose (.appendCap (n+m) cap E)
    askRoom (newCap * bytes)
    let old ← Builtin.firstCells size n (.slice a n cap)
    let new ← Builtin.firstCells size m x
    let rest:=Builtin.zeroCells (← zeroValue E).cells (newCap - (n+m))
    pure (.slice (some (← newRow E (old++new++rest))) (n+m) newCap):Sem Value).run P w:=by
 have hb0:(bytes=0)=False:=by simp [Nat.pos_iff_ne_zero.1 F.wide]
 rcases F.noInt with ⟨e',hd⟩|hd
 all_goals
  simp only [Builtin.append_,List.getElem?_toArray,List.getElem?_cons_zero,List.getElem?_cons_succ,Sem.run_bind,run_underlying F.slice,Result.andThen_ok,run_sizeOf hi,run_underlying hd,Sem.run_pure,Bool.false_eq_true,if_false,run_lenOf hx,hsz]
  split
  ·simp only [Bool.not_false,if_true,Sem.run_bind]
   rfl
  ·simp only [Bool.not_false,if_true,Sem.run_bind,run_typeInfo hi,Result.andThen_ok,hb0,hby,false_or,and_false,if_false,Sem.run_pure]
   rename_i hn
   rw [if_neg (by have:=hle.resolve_left hn;omega)]
   simp only [Sem.run_bind]
   congr 1
   funext q w'
   simp only [run_typeInfo hi,Result.andThen_ok,hby,Sem.run_pure]

theorem run_append {T X E:TypeId} {size bytes:Nat} (F:AppT P T X E size bytes) {B:Nat} {w:World} {v x:Value} {n m:Nat} {cs news:List Value}
  (ho:Own B w E size v n cs) (hf:cs.all flat=true) (hx:Src w size x m news) (hB:B≤w.heap.size) (hb:(2 * (n+m)+512) * bytes≤2 ^ 48) (ty:TypeId) :
  ∃ v' w',(Builtin.append_ #[T,X] ty #[v,x]).run P w = .ok v' w'∧Own B w' E size v' (n+m) (cs++news)∧Upd (ownB v) w w'∧(∀ b,ownB v' b→ownB v b∨w.heap.size≤b)∧((∃ a k c,v = .slice (some a) k c)→∃ a k c,v' = .slice (some a) k c):=by
 obtain ⟨ei,z,hi,hsz,hby,hz,hzs⟩:=F.info
 have hlen:cs.length=n * size:=ho.1
 have hnews:news.length=m * size:=hx.1
 have hself:=ho.seg hf
 obtain ⟨a,cap,hv,hcap⟩:=ho.shape
 subst hv
 have hmul:n+m≤cap∨Builtin.nextslicecap (n+m) cap * bytes≤2 ^ 48:=by
  rcases Nat.lt_or_ge cap (n+m) with h|h
  ·exact .inr (Nat.le_trans (Nat.mul_le_mul_right _ (nextslicecap_le h)) hb)
  ·exact .inl h
 rw [run_append_prefix F hx hmul ty hi hby hsz]
 by_cases hin:n+m≤cap
 ·rw [if_pos hin]
  rcases ho.2 with ⟨h1,h0⟩|⟨g,cap',rest,fr,h1,h2,h3,h4,h5,h6⟩
  ·cases h1
   have hm:m=0:=by omega
   subst hm
   have hn:news=[]:=List.eq_nil_of_length_eq_zero (by simpa using hnews)
   have hc:cs=[]:=List.eq_nil_of_length_eq_zero (by simpa using hlen)
   subst hn;subst hc
   refine ⟨.slice none 0 0,w,?_,⟨by simp,.inl ⟨rfl,rfl⟩⟩,Upd.refl _ _,fun b hb=>.inl hb,id⟩
   simp only [Sem.run_bind,run_firstCells hx,Result.andThen_ok,Sem.run_pure]
  ·cases h1
   have hle:news.length≤rest.length:=by
    have:(n+m) * size≤cap * size:=Nat.mul_le_mul_right _ hin
    rw [Nat.add_mul] at this
    omega
   have hth:fr.2≤0∨0+cap * size≤fr.1:=by simpa [thaw,Nat.ble_eq] using h5
   have hst:=run_storeCells (P:=P) news w (n * size) 0 _ h3 (by simp;omega) (by simp only [];omega) hx.2.1
   simp only [Nat.add_zero] at hst
   refine ⟨.slice (some ⟨g,0,none⟩) (n+m) cap,wr w g (n * size) news,?_,⟨by simp [hlen,hnews,Nat.add_mul],.inr ⟨g,cap,rest.drop news.length,fr,rfl,h2,?_,by simp;omega,h5,hin⟩⟩,?_,fun b hb=>.inl ?_,fun _=>⟨_,_,_,rfl⟩⟩
   ·simp only [Sem.run_bind,run_firstCells hx,Result.andThen_ok,add_plain,Nat.zero_add,hst,Sem.run_pure]
   ·rw [blk_wr_eq,h3,← hlen]
    simp only [Option.map_some,wrArr_append cs rest news hle]
   ·exact Upd.wr (Upd.refl _ _) _ _ (.inr ⟨_,_,_,rfl,rfl⟩)
   ·obtain ⟨a,k,c,hb,rfl⟩:=hb
    cases hb;exact ⟨_,_,_,rfl,rfl⟩
 ·rw [if_neg hin]
  have hx':=hx.keep (keeps_drew w)
  have hs':=hself.keep (keeps_drew w)
  simp only [Sem.run_bind,choose]
  rw [run_drew rfl]
  generalize hq:(Question.appendCap (n+m) cap E).cut (w.tape w.drawn (Question.appendCap (n+m) cap E))=q
  have hqn:n+m≤q:=by rw [← hq];simp only [Question.cut];omega
  have hask:(askRoom (q * bytes)).run P w.drew = .ok () w.drew:=by
   unfold askRoom;split<;>rfl
  simp only [Sem.run_pure',Result.andThen_ok,hask,run_firstCells hs',run_firstCells hx',run_zero hi hz,newRow,newObj,Sem.run,Sem.run_bind,Sem.run_pure]
  have hzl:=zeroCells_size z.cells (q - (n+m))
  refine ⟨_,_,rfl,⟨by simp [hlen,hnews,Nat.add_mul],.inr ⟨w.heap.size,q,(Builtin.zeroCells z.cells (q - (n+m))).toList,(0,0),rfl,hB,?_,?_,by simp [thaw,Nat.ble],hqn⟩⟩,?_,fun b hb=>.inr ?_,fun _=>⟨_,_,_,rfl⟩⟩
  ·have:=blk_alloc_new (w:=w.drew) (c:=(cs.toArray++news.toArray++Builtin.zeroCells z.cells (q - (n+m)))) (T:=E) (fr:=(0,0)) (b:=w.heap.size) rfl
   refine this.trans ?_
   congr 2
   simp
  ·have hz2:(Builtin.zeroCells z.cells (q - (n+m))).toList.length=(q - (n+m)) * size:=by rw [Array.length_toList,hzl,hzs]
   have hl2:(cs++news).length=n * size+m * size:=by rw [List.length_append,hlen,hnews]
   rw [hz2,hl2]
   rw [← Nat.add_mul,← Nat.add_mul]
   congr 1;omega
  ·exact (Upd.refl _ w).drew.alloc _
  ·obtain ⟨a,k,c,hb,rfl⟩:=hb
   cases hb;exact Nat.le_refl _

theorem wp_append {T X E:TypeId} {size bytes:Nat} (F:AppT P T X E size bytes) {B:Nat} {w:World} {ρ:Regs} {d:Option Nat} {x y:Operand} {type:TypeId} {pos:String} {after:Array Edge} {guard:Option (Nat × Bool)} {K:Regs→World→Prop} {v u:Value} {n m:Nat} {cs news:List Value}
  (hv:ev ρ x=v) (hu:ev ρ y=u)
  (ho:Own B w E size v n cs) (hf:cs.all flat=true) (hx:Src w size u m news) (hB:B≤w.heap.size) (hb:(2 * (n+m)+512) * bytes≤2 ^ 48)
  (hk:∀ v' w',Own B w' E size v' (n+m) (cs++news)→Upd (ownB v) w w'→(∀ b,ownB v' b→ownB v b∨w.heap.size≤b)→K (put ρ d v') w') :
  rawK P { dst:=d,op:=.call { callee:=.builtin .append,args:=#[x,y],argTypes:=#[T,X] },type:=type,pos:=pos,after:=after,guard:=guard } ρ w K:=by
 refine ⟨?_⟩
 obtain ⟨v',w',h1,h2,h3,h4,_⟩:=run_append F ho hf hx hB hb type
 have:(execOp (ev ρ) { dst:=d,op:=.call { callee:=.builtin .append,args:=#[x,y],argTypes:=#[T,X] },type:=type,pos:=pos,after:=after,guard:=guard }).run P w = .ok (.value v') w':=by
  simp only [execOp,resolve,Sem.run_bind,Sem.run_pure,Result.andThen_ok,invoke,builtin,List.map_toArray,List.map_cons,List.map_nil,hv,hu,h1]
 rw [this]
 exact hk v' w' h2 h3 h4
end
end Ms

namespace Ms
open Go

theorem i64_wrap {x:Int} (h : -9223372036854775808≤x∧x≤9223372036854775807):IntKind.i64.wrap x=x:=IntWalk.i64_in x h
theorem i32_wrap {x:Int} (h : -2147483648≤x∧x≤2147483647):IntKind.i32.wrap x=x:=IntWalk.i32_in x h
theorem i16_wrap {x:Int} (h : -32768≤x∧x≤32767):IntKind.i16.wrap x=x:=IntWalk.i16_in x h
theorem u32_wrap {x:Int} (h:0≤x∧x≤4294967295):IntKind.u32.wrap x=x:=IntWalk.u32_in x h
theorem u64_wrap {x:Int} (h:0≤x∧x≤18446744073709551615):IntKind.u64.wrap x=x:=IntWalk.u64_in x h

section
variable {P : Program} {T:TypeId}
def cellsAt (c:Array Value) (o n:Nat):Option Value:=if o+n≤c.size then some (.agg (c.extract o (o+n))) else none
theorem cellsAt_ok {c:Array Value} {o n:Nat} (h:o+n≤c.size):cellsAt c o n=some (.agg (c.extract o (o+n))):=if_pos h
theorem loadOf_one (h:loadKind P T=some none) (w:World) (b o:Nat):loadOf P T w ⟨b,o,none⟩=(blk w b).bind fun x=>x.1[o]?:=by simp only [loadOf,h]
theorem loadOf_agg {n:Nat} (h:loadKind P T=some (some n)) (w:World) (b o:Nat):loadOf P T w ⟨b,o,none⟩=(blk w b).bind fun x=>cellsAt x.1 o n:=by simp only [loadOf,h];rfl
def stO (w:World) (b o:Nat) (v:Value) (x:Blk) (n:Nat):Option World :=
 if v.cells.size=n∧o+n≤x.1.size∧thaw x.2.2 o n=true∧v.cells.toList.all flat=true then some (wr w b o v.cells.toList) else none
theorem storeOf_n {n:Nat} (h:sizeT P T=some n) (w:World) (b o:Nat) (v:Value):storeOf P T w ⟨b,o,none⟩ v=(blk w b).bind fun x=>stO w b o v x n:=by simp only [storeOf,h,Option.bind_some];rfl
theorem stO_eq (w:World) (b o:Nat) (v:Value) (x:Blk) (n:Nat):stO w b o v x n=if (vcells v).size=n∧o+n≤x.1.size∧thaw x.2.2 o n=true∧(vcells v).toList.all flat=true then some (wr w b o (vcells v).toList) else none:=nr rfl
theorem thaw_00 (o n:Nat):thaw (0,0) o n=true:=by simp [thaw,Nat.ble]
theorem binNil_eq (op:BinOp) (y:Operand) (a b:Value):binNil P op T y a b=if isNilI a=true then (if isNilI b=true then eqV op (isIfaceT P T && isConstO y) true else none) else binV P op T a b:=nr rfl
theorem intV_add (k:IntKind) (x y:Int):intV .add k k x y=some (.int k (k.wrap (x+y))):=by simp [intV,intOp]
theorem intV_sub (k:IntKind) (x y:Int):intV .sub k k x y=some (.int k (k.wrap (x - y))):=by simp [intV,intOp]
theorem intV_mul (k:IntKind) (x y:Int):intV .mul k k x y=some (.int k (k.wrap (x * y))):=by simp [intV,intOp]
theorem intV_rem (k:IntKind) {x y:Int} (h:y≠0):intV .rem k k x y=some (.int k (x.tmod y)):=by simp [intV,intOp,h]
theorem intV_and (k:IntKind) (x y:Int):intV .and k k x y=some (.int k (k.wrap ((BitVec.ofInt (kbits k) x &&& BitVec.ofInt (kbits k) y).toNat:Int))):=by unfold kbits;simp [intV,intOp,bitsOf]
theorem intV_or (k:IntKind) (x y:Int):intV .or k k x y=some (.int k (k.wrap ((BitVec.ofInt (kbits k) x ||| BitVec.ofInt (kbits k) y).toNat:Int))):=by unfold kbits;simp [intV,intOp,bitsOf]
theorem intV_xor (k:IntKind) (x y:Int):intV .xor k k x y=some (.int k (k.wrap ((BitVec.ofInt (kbits k) x ^^^ BitVec.ofInt (kbits k) y).toNat:Int))):=by unfold kbits;simp [intV,intOp,bitsOf]
theorem intV_shl (k k':IntKind) {x y:Int} (h:0≤y):intV .shl k k' x y=some (.int k (k.wrap (x * 2 ^ (min y.toNat (kbits k))))):=shlO_ok k h
theorem intV_shr (k k':IntKind) {x y:Int} (h:0≤y):intV .shr k k' x y=some (.int k (x.fdiv (2 ^ (min y.toNat (kbits k))))):=shrO_ok k h
theorem intV_eql (k:IntKind) (x y:Int):intV .eql k k x y=some (.bool (x == y)):=by simp [intV,intOp,cmpOf]
theorem intV_neq (k:IntKind) (x y:Int):intV .neq k k x y=some (.bool (x != y)):=by simp [intV,intOp,cmpOf]
theorem intV_lss (k:IntKind) (x y:Int):intV .lss k k x y=some (.bool (decide (x < y))):=by simp [intV,intOp,cmpOf]
theorem intV_leq (k:IntKind) (x y:Int):intV .leq k k x y=some (.bool (decide (x≤y))):=by simp [intV,intOp,cmpOf]
theorem intV_gtr (k:IntKind) (x y:Int):intV .gtr k k x y=some (.bool (decide (x > y))):=by simp [intV,intOp,cmpOf]
theorem intV_geq (k:IntKind) (x y:Int):intV .geq k k x y=some (.bool (decide (x ≥ y))):=by simp [intV,intOp,cmpOf]
theorem eqV_eql (r:Bool):eqV .eql true r=some (.bool r):=nr rfl
theorem eqV_neq (r:Bool):eqV .neq true r=some (.bool (!r)):=nr rfl
theorem plainB_len : plainB .len=true:=nr rfl
theorem plainB_min : plainB .min=true:=nr rfl
theorem plainB_max : plainB .max=true:=nr rfl
theorem plainB_append : plainB .append=false:=nr rfl
theorem plainB_copy : plainB .copy=false:=nr rfl
theorem bltK_len (v:Value):bltK P .len #[T] #[v] = lenV P T v:=nr rfl
theorem bltK_min (ts:Array TypeId) (x y:Value):bltK P .min ts #[x,y] = minV x y:=nr rfl
theorem bltK_max (ts:Array TypeId) (x y:Value):bltK P .max ts #[x,y] = maxV x y:=nr rfl
theorem fillL_nil (pl:List (Nat × Nat)) (c:Array Value):fillL pl c [] = some c:=nr rfl
theorem fillL_cons (pl:List (Nat × Nat)) (c:Array Value) (i:Nat) (v:Value) (r:List (Nat × Value)):fillL pl c ((i,v) :: r) =
  (pl[i]?).bind fun p=>if (vcells v).size=p.2∧p.1+(vcells v).size≤c.size then fillL pl (wrArr c p.1 (vcells v).toList) r else none:=by
 simp only [fillL];cases pl[i]?<;>rfl
theorem bsl_nil (s k:Nat):bsl s k [] = some []:=nr rfl
theorem bsl_cons (s k i:Nat) (v:Value) (r:List (Nat × Value)):bsl s k ((i,v) :: r)=if i=k∧(vcells v).size=s then (bsl s (k+1) r).map ((vcells v).toList++·) else none:=nr rfl
theorem wrArr_nil (c:Array Value) (o:Nat):wrArr c o [] = c:=nr rfl
theorem wrArr_cons (c:Array Value) (o:Nat) (v:Value) (vs:List Value):wrArr c o (v :: vs)=wrArr (c.setIfInBounds o v) (o+1) vs:=nr rfl
theorem resV_one (v:Value):resV [v] = v:=nr rfl
theorem resV_none : resV [] = .tuple #[]:=nr rfl
theorem resV_two (u v:Value):resV [u,v] = .tuple #[u,v]:=nr rfl
end
section
variable (P : Program) (op:BinOp) (T:TypeId)
theorem binV_int (k k':IntKind) (x y:Int):binV P op T (.int k x) (.int k' y)=intV op k k' x y:=nr rfl
theorem binV_bool (x y:Bool):binV P op T (.bool x) (.bool y)=eqV op (isBoolT P T) (x == y):=nr rfl
theorem binV_slice (a c:Option Addr) (n m k l:Nat):binV P op T (.slice a n m) (.slice c k l)=eqV op (isSliceT P T && c.isNone) a.isNone:=nr rfl
theorem binV_map (a c:Option Nat):binV P op T (.map a) (.map c)=eqV op (isMapT P T && c.isNone) a.isNone:=nr rfl
theorem binV_pointer (a c:Option Addr):binV P op T (.pointer a) (.pointer c)=eqV op (isPtrT P T && c.isNone) a.isNone:=nr rfl
theorem binV_iface (t:TypeId) (v:Value):binV P op T (.iface t v) .nilIface=eqV op (isIfaceT P T) false:=nr rfl
theorem isNilI_int (k:IntKind) (x:Int):isNilI (.int k x)=false:=nr rfl
theorem isNilI_bool (x:Bool):isNilI (.bool x)=false:=nr rfl
theorem isNilI_slice (a:Option Addr) (n m:Nat):isNilI (.slice a n m)=false:=nr rfl
theorem isNilI_map (a:Option Nat):isNilI (.map a)=false:=nr rfl
theorem isNilI_pointer (a:Option Addr):isNilI (.pointer a)=false:=nr rfl
theorem isNilI_iface (t:TypeId) (v:Value):isNilI (.iface t v)=false:=nr rfl
theorem isNilI_nil : isNilI .nilIface=true:=nr rfl
theorem isConstO_const (v:Value):isConstO (.const v)=true:=nr rfl
theorem isConstO_tmp (v:Nat):isConstO (.tmp v)=false:=nr rfl
theorem lenV_slice (a:Option Addr) (n m:Nat):lenV P T (.slice a n m)=if isSliceT P T=true then some (.int .i64 n) else none:=nr rfl
theorem lenV_string (s:ByteArray):lenV P T (.string s)=if isStrT P T=true then some (.int .i64 s.size) else none:=nr rfl
theorem convV_int (S:TypeId) (k:IntKind) (n:Int):convV P S T (.int k n)=if knownT P S=true then (intT P T).map (fun k=>.int k (k.wrap n)) else none:=nr rfl
theorem minV_int (k k':IntKind) (x y:Int):minV (.int k x) (.int k' y)=some (.int k (if y < x then y else x)):=nr rfl
theorem maxV_int (k k':IntKind) (x y:Int):maxV (.int k x) (.int k' y)=some (.int k (if y > x then y else x)):=nr rfl
theorem sliceV_slice (lo hi mx:Option Value) (a:Option Addr) (n c:Nat):sliceV P T lo hi mx (.slice a n c)=(elemSize P T).bind fun s =>
  (match mx with|none=>some c|some v=>bnd v c).bind fun m =>
  (match hi,mx with|none,none=>some n|none,some _=>none|some v,_=>bnd v m).bind fun h =>
  (match lo with|none=>some 0|some v=>bnd v h).bind fun l=>some (.slice (slBase a l m s) (h - l) (m - l)):=nr rfl
theorem sliceV_ptr (a:Addr):sliceV P T none none none (.pointer (some a))=(arrLen P T).map fun n=>.slice (some a) n n:=nr rfl
end
theorem beq_tt : (true == true)=true:=nr rfl
theorem beq_tf : (true == false)=false:=nr rfl
theorem beq_ft : (false == true)=false:=nr rfl
theorem beq_ff : (false == false)=true:=nr rfl
theorem flat_int (k:IntKind) (x:Int):flat (.int k x)=true:=nr rfl
theorem flat_bool (x:Bool):flat (.bool x)=true:=nr rfl
theorem flat_slice (a:Option Addr) (n m:Nat):flat (.slice a n m)=true:=nr rfl
theorem flat_pointer (a:Option Addr):flat (.pointer a)=true:=nr rfl
theorem flat_string (s:ByteArray):flat (.string s)=true:=nr rfl
theorem flat_map (a:Option Nat):flat (.map a)=true:=nr rfl
theorem flat_iface (t:TypeId) (v:Value):flat (.iface t v)=true:=nr rfl
theorem flat_nilI : flat .nilIface=true:=nr rfl
theorem flat_func (f:Go.Fn) (a b:Array Value):flat (.func f a b)=true:=nr rfl

theorem dec_lt_t {x y:Int} (h:x < y):decide (x < y)=true:=decide_eq_true h
theorem dec_lt_f {x y:Int} (h:y≤x):decide (x < y)=false:=decide_eq_false (by omega)
theorem dec_le_t {x y:Int} (h:x≤y):decide (x≤y)=true:=decide_eq_true h
theorem dec_le_f {x y:Int} (h:y < x):decide (x≤y)=false:=decide_eq_false (by omega)
theorem dec_gt_t {x y:Int} (h:y < x):decide (x > y)=true:=decide_eq_true h
theorem dec_gt_f {x y:Int} (h:x≤y):decide (x > y)=false:=decide_eq_false (by omega)
theorem dec_ge_t {x y:Int} (h:y≤x):decide (x ≥ y)=true:=decide_eq_true h
theorem dec_ge_f {x y:Int} (h:x < y):decide (x ≥ y)=false:=decide_eq_false (by omega)
theorem beq_t {x y:Int} (h:x=y):(x == y)=true:=by simp [h]
theorem beq_f {x y:Int} (h:x≠y):(x == y)=false:=by simp [h]
theorem bne_t {x y:Int} (h:x≠y):(x != y)=true:=by simp [h]
theorem bne_f {x y:Int} (h:x=y):(x != y)=false:=by simp [h]

def b8 (x:Int):UInt8:=UInt8.ofNat (x % 256).toNat
theorem b8_toNat (x:Int):((b8 x).toNat:Int)=x % 256:=by
 have h1:(x % 256).toNat < 256:=by omega
 simp only [b8,UInt8.toNat_ofNat']
 omega
theorem u8_byte (x:Int):Value.int .u8 (IntKind.u8.wrap x)=byteV (b8 x):=by
 simp only [byteV,b8_toNat]
 congr 1
theorem cells_byte (b:UInt8):vcells (byteV b)=#[byteV b]:=nr rfl

theorem OwnBy.app {E:TypeId} {B:Nat} {w:World} {v:Value} {s t:List UInt8} {n:Nat} (h:Own B w E 1 v n (s.map byteV++t.map byteV)) (hn:n=s.length+t.length):OwnBy E B w v (s++t):=by
 unfold OwnBy;rw [List.map_append,List.length_append,← hn];exact h
theorem OwnBy.snoc {E:TypeId} {B:Nat} {w:World} {v:Value} {s:List UInt8} {b:UInt8} (h:Own B w E 1 v (s.length+1) (s.map byteV++[byteV b])):OwnBy E B w v (s++[b]) :=
 OwnBy.app (t:=[b]) h rfl
theorem OwnBy.len {E:TypeId} {B:Nat} {w:World} {v:Value} {s:List UInt8} (h:OwnBy E B w v s):∃ a c,v = .slice a s.length c∧s.length≤c:=Own.shape h
theorem flat_bytes (s:List UInt8):(s.map byteV).all flat=true:=by
 simp only [List.all_map,List.all_eq_true];intro b _;rfl
theorem Ext.own {w w1 w2:World} {v:Value} {E:TypeId} {size n:Nat} {cs:List Value} {wa:World} (h:Ext w w1) (ho:Own w.heap.size wa E size v n cs) (hu:Upd (ownB v) w1 w2):Ext w w2 :=
 Upd.trans' h hu fun i hi hs=>by have:=ho.above hs;omega
theorem Own.alloc {B:Nat} {w:World} {E:TypeId} {size:Nat} {v:Value} {n:Nat} {cs:List Value} (h:Own B w E size v n cs) (o:Obj):Own B (w.alloc o) E size v n cs :=
 h.keep fun _ _ hlt=>RowKit.Below.heap_alloc _ _ _ hlt
theorem Own.upd {S:Nat→Prop} {B:Nat} {w w':World} {E:TypeId} {size:Nat} {v:Value} {n:Nat} {cs:List Value} (h:Own B w E size v n cs) (u:Upd S w w') (hs:∀ b,ownB v b→¬ S b):Own B w' E size v n cs :=
 h.keep fun b hb hlt=>u.keep b hlt (hs b hb)


theorem loadOf_upd {P:Program} {T:TypeId} {M:Nat→Prop} {w0 w:World} (u:Upd M w0 w) {a:Addr} (h:a.block < w0.heap.size) (hm:¬ M a.block):loadOf P T w a=loadOf P T w0 a:=by
 obtain ⟨b,o,sp⟩:=a
 cases sp with
 | some s=>rfl
 | none=>simp only [loadOf,u.blk h hm]

abbrev NoB : Nat→Prop:=fun _=>False
theorem not_noB (b:Nat):¬ NoB b:=id
open Classical in
noncomputable def ldM (P:Program) (T:TypeId) (M:Nat→Prop) (w0:World) (a:Addr):Option Value :=
 if a.block < w0.heap.size∧¬ M a.block then loadOf P T w0 a else none
theorem ldM_ok {P:Program} {T:TypeId} {M:Nat→Prop} {w0:World} {b o:Nat} (h1:b < w0.heap.size) (h2:¬ M b):ldM P T M w0 ⟨b,o,none⟩=loadOf P T w0 ⟨b,o,none⟩:=by
 unfold ldM;rw [if_pos ⟨h1,h2⟩]
theorem ldM_some {P:Program} {T:TypeId} {M:Nat→Prop} {w0:World} {a:Addr} {v:Value} (h:ldM P T M w0 a=some v):a.block < w0.heap.size∧¬ M a.block∧loadOf P T w0 a=some v:=by
 unfold ldM at h
 split at h
 ·rename_i hc;exact ⟨hc.1,hc.2,h⟩
 ·cases h

noncomputable def takeK (P:Program) (M:Nat→Prop) (w0:World) (o:Oper) (ρ:Regs) (K:Regs→Prop):Prop :=
 match o.op with
 | .move x=>K (put ρ o.dst (ev ρ x))
 | .pick c a b=>boolK (ev ρ c) fun t=>K (put ρ o.dst (if t=true then ev ρ a else ev ρ b))
 | .load T x=>addrK (ev ρ x) fun a=>optK (ldM P T M w0 a) fun v=>K (put ρ o.dst v)
 | .nilCheck x=>addrK (ev ρ x) fun a=>K (put ρ o.dst (.pointer (some a)))
 | .fieldAddr T x k=>addrK (ev ρ x) fun a=>optK (fieldOff P T k) fun n=>optK (addOff a n) fun a'=>K (put ρ o.dst (.pointer (some a')))
 | .indexAddr T x i=>optK (elemSize P T) fun s=>sliceK (ev ρ x) fun base len _=>intK (ev ρ i) fun _ j=>optK (idxO j len) fun j=>optK base fun a=>optK (addOff a (j * s)) fun a'=>K (put ρ o.dst (.pointer (some a')))
 | .binOp op T x y _=>optK (binNil P op T y (ev ρ x) (ev ρ y)) fun v=>K (put ρ o.dst v)
 | .unOp .not _ x=>boolK (ev ρ x) fun t=>K (put ρ o.dst (.bool (!t)))
 | .convert S T x=>optK (convV P S T (ev ρ x)) fun v=>K (put ρ o.dst v)
 | .slice T x lo hi mx=>optK (sliceV P T (lo.map (ev ρ)) (hi.map (ev ρ)) (mx.map (ev ρ)) (ev ρ x)) fun v=>K (put ρ o.dst v)
 | .call { callee:=.builtin b,args,argTypes }=>plainB b=true∧optK (bltK P b argTypes (args.map (ev ρ))) fun v=>K (put ρ o.dst v)
 | _=>False

noncomputable def WPp (P:Program) (ops:Array Oper) (M:Nat→Prop) (w0:World):Plan→(Regs→World→Prop)→Regs→World→Prop
 | .done,K,ρ,w=>K ρ w
 | .take i r,K,ρ,w =>
  if wantedR ops (ops.getD i nop) ρ=true then takeK P M w0 (ops.getD i nop) ρ (fun ρ'=>WPp P ops M w0 r K ρ' w)
  else WPp P ops M w0 r K (put ρ (ops.getD i nop).dst undef) w
 | .only i r,K,ρ,w =>
  if wantedR ops (ops.getD i nop) ρ=true then stepK P (ops.getD i nop) ρ w (fun ρ' w'=>Upd M w0 w'∧WPp P ops M w0 r K ρ' w')
  else WPp P ops M w0 r K (put ρ (ops.getD i nop).dst undef) w
 | .last i,K,ρ,w =>
  if wantedR ops (ops.getD i nop) ρ=true then stepK P (ops.getD i nop) ρ w K
  else K (put ρ (ops.getD i nop).dst undef) w
 | .two i r j s,K,ρ,w =>
  (if wantedR ops (ops.getD i nop) ρ=true then stepK P (ops.getD i nop) ρ w (fun ρ' w'=>Upd M w0 w'∧WPp P ops M w0 r K ρ' w')
  else WPp P ops M w0 r K (put ρ (ops.getD i nop).dst undef) w) ∧
  (if wantedR ops (ops.getD j nop) ρ=true then stepK P (ops.getD j nop) ρ w (fun ρ' w'=>Upd M w0 w'∧WPp P ops M w0 s K ρ' w')
  else WPp P ops M w0 s K (put ρ (ops.getD j nop).dst undef) w)

section
variable {P : Program}

theorem WPr_mono {dst:Option Nat} {ρ:Regs} {K K':Regs→World→Prop} (hk:∀ ρ w,K ρ w→K' ρ w) {r:Result Next} (h:WPr P dst ρ K r):WPr P dst ρ K' r:=by
 cases r with
 | halt x w'=>exact h
 | ok x w' =>
  cases x<;>first|exact hk _ _ h|exact h|skip
  case enter f args=>exact Fn.mono h fun v w' hh=>hk _ _ hh
  case row row args=>exact Rows.mono h fun v w' hh=>hk _ _ hh

theorem take_sound {M:Nat→Prop} {w0:World} {o:Oper} {ρ:Regs} {K:Regs→Prop} (h:takeK P M w0 o ρ K) :
  ∃ v,(∀ w,Upd M w0 w→(execOp (ev ρ) o).run P w = .ok (.value v) w)∧K (put ρ o.dst v):=by
 obtain ⟨dst,op,type,pos,after,guard⟩:=o
 -- the step's own proof tells what the model's operation comes to,world by world
 have via:∀ (v:Value),K (put ρ dst v)→(∀ w,Upd M w0 w→∃ s:Sem Value,(execOp (ev ρ) { dst:=dst,op:=op,type:=type,pos:=pos,after:=after,guard:=guard })=(do pure (.value (← s)))∧s.run P w = .ok v w) →
   ∃ v,(∀ w,Upd M w0 w→(execOp (ev ρ) { dst:=dst,op:=op,type:=type,pos:=pos,after:=after,guard:=guard }).run P w = .ok (.value v) w)∧K (put ρ dst v):=by
  intro v hk hs
  refine ⟨v,fun w hw => ?_,hk⟩
  obtain ⟨s,h1,h2⟩:=hs w hw
  rw [h1]
  simp only [Sem.run_bind,h2,Result.andThen_ok];rfl
 cases op<;>first|exact h.elim|skip
 case move x=>exact ⟨_,fun w _=>rfl,h⟩
 case pick c a b =>
  obtain ⟨t,ht,hk⟩:=boolK_elim h
  refine ⟨_,fun w _ => ?_,hk⟩
  simp only [execOp,ht,asBool,Sem.run_bind,Sem.run_pure,Result.andThen_ok]
 case load T x =>
  obtain ⟨a,ha,h⟩:=addrK_elim h
  obtain ⟨v,hv,hk⟩:=optK_elim h
  obtain ⟨hb,hm,hv⟩:=ldM_some hv
  refine via v hk fun w hw=>⟨Instr.loadAt T (ev ρ x),rfl,?_⟩
  simp only [Instr.loadAt,ha,Instr.sureAddr,Sem.run_bind,Sem.run_pure,Result.andThen_ok]
  exact loadOf_sound (by rw [loadOf_upd hw hb hm];exact hv)
 case nilCheck x =>
  obtain ⟨a,ha,hk⟩:=addrK_elim h
  exact ⟨_,fun w _=>by simp only [execOp,ha];rfl,hk⟩
 case fieldAddr T x k =>
  obtain ⟨a,ha,h⟩:=addrK_elim h
  obtain ⟨n,hn,h⟩:=optK_elim h
  obtain ⟨a',ha',hk⟩:=optK_elim h
  refine via _ hk fun w _=>⟨Instr.fieldAt T (ev ρ x) k,rfl,?_⟩
  rw [ha];exact fieldOff_sound hn ha' w
 case indexAddr T x i =>
  obtain ⟨s,hs,h⟩:=optK_elim h
  obtain ⟨base,len,cap,hx,h⟩:=sliceK_elim h
  obtain ⟨k,j,hj,h⟩:=intK_elim h
  obtain ⟨jn,hjn,h⟩:=optK_elim h
  obtain ⟨a,ha,h⟩:=optK_elim h
  obtain ⟨a',ha',hk⟩:=optK_elim h
  refine via _ hk fun w _=>⟨Instr.indexAt T (ev ρ x) (ev ρ i),rfl,?_⟩
  have hb:0≤j∧j < len:=by unfold idxO at hjn;split at hjn<;>simp_all
  have hjn:jn=j.toNat:=by rw [idxO_ok hb] at hjn;simpa using hjn.symm
  subst hjn
  simp only [elemSize] at hs
  split at hs
  ·rename_i e he
   simp only [Option.map_eq_some_iff] at hs
   obtain ⟨inf,hi,rfl⟩:=hs
   subst ha
   simp only [Instr.indexAt,hx,hj,asIntOf,Sem.run_bind,Sem.run_pure,Result.andThen_ok,run_underlying he]
   simp only [hb,and_self,if_true,Sem.run_bind,run_sizeOf hi,Result.andThen_ok,Sem.run_pure,add_of_addOff ha']
  ·cases hs
 case binOp op T x y yT =>
  obtain ⟨v,hv,hk⟩:=optK_elim h
  exact via v hk fun w _=>⟨_,rfl,binNil_sound hv w⟩
 case unOp op T x =>
  cases op<;>first|exact h.elim|skip
  obtain ⟨t,ht,hk⟩:=boolK_elim h
  refine via _ hk fun w _=>⟨Op.unary .not (ev ρ x),rfl,?_⟩
  rw [ht];rfl
 case convert S T x =>
  obtain ⟨v,hv,hk⟩:=optK_elim h
  exact via v hk fun w _=>⟨_,rfl,conv_sound hv w⟩
 case slice T x lo hi mx =>
  obtain ⟨v,hv,hk⟩:=optK_elim h
  exact via v hk fun w _=>⟨_,rfl,slice_sound hv w⟩
 case call c =>
  obtain ⟨callee,args,argTypes⟩:=c
  cases callee with
  | invoke r m=>exact h.elim
  | value x=>exact h.elim
  | builtin b =>
   obtain ⟨hb,h⟩:=h
   obtain ⟨v,hv,hk⟩:=optK_elim h
   exact ⟨v,fun w _=>plain_run hb hv w,hk⟩

theorem plan_sound {ops:Array Oper} {M:Nat→Prop} {w0:World}:∀ (p:Plan) (K:Regs→World→Prop) (ρ:Regs) (w:World),Upd M w0 w→WPp P ops M w0 p K ρ w→WPplan P ops (fun w=>Upd M w0 w) p K ρ w:=by
 intro p
 induction p with
 | done=>intro K ρ w _ h;exact h
 | take i r ih =>
  intro K ρ w hw h
  simp only [WPp] at h
  simp only [WPplan]
  split
  ·rename_i hwt
   rw [if_pos hwt] at h
   obtain ⟨v,hv,hk⟩:=take_sound h
   exact ⟨v,hv,hw,ih _ _ _ hw hk⟩
  ·rename_i hwt
   rw [if_neg hwt] at h
   exact ⟨hw,ih _ _ _ hw h⟩
 | only i r ih =>
  intro K ρ w hw h
  simp only [WPp] at h
  simp only [WPplan]
  split
  ·rename_i hwt
   rw [if_pos hwt] at h
   have:=step_sound h
   unfold WPop at this ⊢
   exact WPr_mono (fun ρ' w' hh=>⟨hh.1,ih _ _ _ hh.1 hh.2⟩) this
  ·rename_i hwt
   rw [if_neg hwt] at h
   exact ⟨hw,ih _ _ _ hw h⟩
 | last i =>
  intro K ρ w hw h
  simp only [WPp] at h
  simp only [WPplan]
  split
  ·rename_i hwt
   rw [if_pos hwt] at h
   exact step_sound h
  ·rename_i hwt
   rw [if_neg hwt] at h
   exact h
 | two i r j s ih1 ih2 =>
  intro K ρ w hw h
  simp only [WPp] at h
  simp only [WPplan]
  refine ⟨?_,?_⟩
  ·have h:=h.1
   split
   ·rename_i hwt
    rw [if_pos hwt] at h
    have:=step_sound h
    unfold WPop at this ⊢
    exact WPr_mono (fun ρ' w' hh=>⟨hh.1,ih1 _ _ _ hh.1 hh.2⟩) this
   ·rename_i hwt
    rw [if_neg hwt] at h
    exact ⟨hw,ih1 _ _ _ hw h⟩
  ·have h:=h.2
   split
   ·rename_i hwt
    rw [if_pos hwt] at h
    have:=step_sound h
    unfold WPop at this ⊢
    exact WPr_mono (fun ρ' w' hh=>⟨hh.1,ih2 _ _ _ hh.1 hh.2⟩) this
   ·rename_i hwt
    rw [if_neg hwt] at h
    exact ⟨hw,ih2 _ _ _ hw h⟩

variable {n : Nat} {Q:Exit→Regs→World→Prop}
theorem W.drawR {id:Nat} {ops:Array Oper} {ρ:Regs} {w:World} (p:Plan) (M:Nat→Prop) (hm:P.follows .mixedOrders=true)
  (hc:(Region.noSelect ops && fitsL n ops.toList && (p.ok ops (Array.replicate ops.size false) && Nat.ble p.len ops.size))=true)
  (h:WPp P ops M w.drew p (Q .normal) ρ w.drew):W P n (.region id ops true) Q ρ w:=by
 rw [Bool.and_eq_true,Bool.and_eq_true] at hc
 exact W.draw p _ hm hc.1.1 hc.1.2 hc.2 (plan_sound _ _ _ _ (Upd.refl _ _) h)
theorem WPp_congr {ops:Array Oper} {M:Nat→Prop} {w0:World} {p:Plan} {K:Regs→World→Prop} {ρ ρ':Regs} {w w':World} (h1:ρ=ρ') (h2:w=w'):WPp P ops M w0 p K ρ w=WPp P ops M w0 p K ρ' w':=by rw [h1,h2]

end
/-! ### The steps as equations,for the walks -/
section
variable {P : Program} (ops:Array Oper) (ρ:Regs) (w:World) (K:Regs→World→Prop) (d:Option Nat) (ty:TypeId) (ps:String) (af:Array Edge) (g:Option (Nat × Bool))
theorem step_move (x:Operand):stepK P { dst:=d,op:=.move x,type:=ty,pos:=ps,after:=af,guard:=g } ρ w K=(K (put ρ d (ev ρ x)) w):=nr rfl
theorem step_assign (x:Operand):stepK P { dst:=d,op:=.assign x,type:=ty,pos:=ps,after:=af,guard:=g } ρ w K=(K (put ρ d (ev ρ x)) w):=nr rfl
theorem step_pick (c a b:Operand):stepK P { dst:=d,op:=.pick c a b,type:=ty,pos:=ps,after:=af,guard:=g } ρ w K=(boolK (ev ρ c) fun t=>K (put ρ d (if t=true then ev ρ a else ev ρ b)) w):=nr rfl
theorem step_alloc (T:TypeId):stepK P { dst:=d,op:=.alloc T,type:=ty,pos:=ps,after:=af,guard:=g } ρ w K=(optK (zeroOf P T) fun z=>K (put ρ d (.pointer (some ⟨w.heap.size,0,none⟩))) (w.alloc (.cells z T))):=nr rfl
theorem step_box (T:TypeId) (x:Operand):stepK P { dst:=d,op:=.box T x,type:=ty,pos:=ps,after:=af,guard:=g } ρ w K=(K (put ρ d (.pointer (some ⟨w.heap.size,0,none⟩))) (w.alloc (.cells (vcells (ev ρ x)) T))):=nr rfl
theorem step_load (T:TypeId) (x:Operand):stepK P { dst:=d,op:=.load T x,type:=ty,pos:=ps,after:=af,guard:=g } ρ w K=(addrK (ev ρ x) fun a=>optK (loadOf P T w a) fun v=>K (put ρ d v) w):=nr rfl
theorem step_store (T:TypeId) (x y:Operand):stepK P { dst:=d,op:=.store T x y,type:=ty,pos:=ps,after:=af,guard:=g } ρ w K=(addrK (ev ρ x) fun a=>optK (storeOf P T w a (ev ρ y)) fun w'=>K (put ρ d undef) w'):=nr rfl
theorem step_nilCheck (x:Operand):stepK P { dst:=d,op:=.nilCheck x,type:=ty,pos:=ps,after:=af,guard:=g } ρ w K=(addrK (ev ρ x) fun a=>K (put ρ d (.pointer (some a))) w):=nr rfl
theorem step_fieldAddr (T:TypeId) (x:Operand) (k:Nat):stepK P { dst:=d,op:=.fieldAddr T x k,type:=ty,pos:=ps,after:=af,guard:=g } ρ w K=(addrK (ev ρ x) fun a=>optK (fieldOff P T k) fun n=>optK (addOff a n) fun a'=>K (put ρ d (.pointer (some a'))) w):=nr rfl
theorem step_indexAddr (T:TypeId) (x i:Operand):stepK P { dst:=d,op:=.indexAddr T x i,type:=ty,pos:=ps,after:=af,guard:=g } ρ w K=(optK (elemSize P T) fun s=>sliceK (ev ρ x) fun base len _=>intK (ev ρ i) fun _ j=>optK (idxO j len) fun j=>optK base fun a=>optK (addOff a (j * s)) fun a'=>K (put ρ d (.pointer (some a'))) w):=nr rfl
theorem step_binOp (op:BinOp) (T U:TypeId) (x y:Operand):stepK P { dst:=d,op:=.binOp op T x y U,type:=ty,pos:=ps,after:=af,guard:=g } ρ w K=(optK (binNil P op T y (ev ρ x) (ev ρ y)) fun v=>K (put ρ d v) w):=nr rfl
theorem step_not (T:TypeId) (x:Operand):stepK P { dst:=d,op:=.unOp .not T x,type:=ty,pos:=ps,after:=af,guard:=g } ρ w K=(boolK (ev ρ x) fun t=>K (put ρ d (.bool (!t))) w):=nr rfl
theorem step_extract (x:Operand) (i:Nat):stepK P { dst:=d,op:=.extract x i,type:=ty,pos:=ps,after:=af,guard:=g } ρ w K=(tupleK (ev ρ x) fun vs=>optK (vs[i]?) fun v=>K (put ρ d v) w):=nr rfl
theorem step_makeInterface (T:TypeId) (x:Operand):stepK P { dst:=d,op:=.makeInterface T x,type:=ty,pos:=ps,after:=af,guard:=g } ρ w K=((isIfaceT P T=false∧knownT P T=true∧K (put ρ d (.iface T (ev ρ x))) w)):=nr rfl
theorem step_makeFunc (fn:Go.Fn) (a b:Array Operand):stepK P { dst:=d,op:=.makeFunc fn a b,type:=ty,pos:=ps,after:=af,guard:=g } ρ w K=(K (put ρ d (.func fn (a.map (ev ρ)) (b.map (ev ρ)))) w):=nr rfl
theorem step_build (T:TypeId) (parts:Array (Nat × Operand)):stepK P { dst:=d,op:=.build T parts,type:=ty,pos:=ps,after:=af,guard:=g } ρ w K=(optK (zeroOf P T) fun z=>optK (placesOf P T) fun pl=>optK (fillL pl z (parts.toList.map fun (i,x)=>(i,ev ρ x))) fun cs=>K (put ρ d (.agg cs)) w):=nr rfl
theorem step_buildSlice (T:TypeId) (n:Nat) (parts:Array (Nat × Operand)):stepK P { dst:=d,op:=.buildSlice T n parts,type:=ty,pos:=ps,after:=af,guard:=g } ρ w K=(optK (slElem P T) fun e=>optK (bsl e.2 0 (parts.toList.map fun (i,x)=>(i,ev ρ x))) fun cs=>(parts.size=n∧n * e.2≤16777216)∧K (put ρ d (.slice (some ⟨w.heap.size,0,none⟩) n n)) (w.alloc (.cells cs.toArray e.1))):=nr rfl
theorem step_convert (S T:TypeId) (x:Operand):stepK P { dst:=d,op:=.convert S T x,type:=ty,pos:=ps,after:=af,guard:=g } ρ w K=convK P S T (ev ρ x) (fun v=>K (put ρ d v) w) (rawK P { dst:=d,op:=.convert S T x,type:=ty,pos:=ps,after:=af,guard:=g } ρ w K):=nr rfl
theorem step_field (T:TypeId) (x:Operand) (k:Nat):stepK P { dst:=d,op:=.field T x k,type:=ty,pos:=ps,after:=af,guard:=g } ρ w K=(aggK (ev ρ x) fun cs=>optK (fieldV P T k cs) fun v=>K (put ρ d v) w):=nr rfl
theorem step_slice (T:TypeId) (x:Operand) (lo hi mx:Option Operand):stepK P { dst:=d,op:=.slice T x lo hi mx,type:=ty,pos:=ps,after:=af,guard:=g } ρ w K=(optK (sliceV P T (lo.map (ev ρ)) (hi.map (ev ρ)) (mx.map (ev ρ)) (ev ρ x)) fun v=>K (put ρ d v) w):=nr rfl
theorem step_call (x:Operand) (args:Array Operand) (ats:Array TypeId):stepK P { dst:=d,op:=.call { callee:=.value x,args:=args,argTypes:=ats },type:=ty,pos:=ps,after:=af,guard:=g } ρ w K=(funcK (ev ρ x) fun f a b=>if callable P f=true then Fn P f (a++args.map (ev ρ)++b) w fun v w'=>K (put ρ d v) w' else rawK P { dst:=d,op:=.call { callee:=.value x,args:=args,argTypes:=ats },type:=ty,pos:=ps,after:=af,guard:=g } ρ w K):=nr rfl
theorem step_builtin (b:Builtin) (args:Array Operand) (ats:Array TypeId):stepK P { dst:=d,op:=.call { callee:=.builtin b,args:=args,argTypes:=ats },type:=ty,pos:=ps,after:=af,guard:=g } ρ w K=(if plainV b (args.map (ev ρ))=true then optK (bltK P b ats (args.map (ev ρ))) fun v=>K (put ρ d v) w else rawK P { dst:=d,op:=.call { callee:=.builtin b,args:=args,argTypes:=ats },type:=ty,pos:=ps,after:=af,guard:=g } ρ w K):=nr rfl
theorem step_make (T:TypeId) (x y:Operand):stepK P { dst:=d,op:=.makeSlice T x y,type:=ty,pos:=ps,after:=af,guard:=g } ρ w K=rawK P { dst:=d,op:=.makeSlice T x y,type:=ty,pos:=ps,after:=af,guard:=g } ρ w K:=nr rfl
theorem WPsq_nil : WPsq P ops [] K ρ w=K ρ w:=nr rfl
theorem WPsq_cons (o:Oper) (os:List Oper):WPsq P ops (o :: os) K ρ w=if wantedR ops o ρ=true then stepK P o ρ w (WPsq P ops os K) else WPsq P ops os K (put ρ o.dst undef) w:=nr rfl
theorem wantedR_none (op:Op):wantedR ops { dst:=d,op:=op,type:=ty,pos:=ps,after:=af,guard:=none } ρ=true:=nr rfl
def guardV (t:Option Nat) (ρ:Regs) (b:Bool):Bool:=match t with|some t=>(match ρ t with|.bool c=>c == b|_=>false)|none=>false
def boolIs (v:Value) (b:Bool):Bool:=match v with|.bool c=>c == b|_=>false
theorem boolIs_bool (c b:Bool):boolIs (.bool c) b=(c == b):=nr rfl
theorem boolIs_undef (b:Bool):boolIs undef b=false:=nr rfl
theorem guardV_some (t:Nat) (b:Bool):guardV (some t) ρ b=boolIs (ρ t) b:=nr rfl
theorem wantedR_some (op:Op) (j:Nat) (b:Bool):wantedR ops { dst:=d,op:=op,type:=ty,pos:=ps,after:=af,guard:=some (j,b) } ρ=guardV ((ops[j]?).bind (·.dst)) ρ b:=by
 simp only [wantedR,guardV]
 cases (ops[j]?).bind (·.dst)<;>rfl
end
section
variable {P : Program} (ops:Array Oper) (M:Nat→Prop) (w0:World) (ρ:Regs) (w:World) (K:Regs→Prop) (Kw:Regs→World→Prop) (d:Option Nat) (ty:TypeId) (ps:String) (af:Array Edge) (g:Option (Nat × Bool))
theorem take_move (x:Operand):takeK P M w0 { dst:=d,op:=.move x,type:=ty,pos:=ps,after:=af,guard:=g } ρ K=(K (put ρ d (ev ρ x))):=nr rfl
theorem take_pick (c a b:Operand):takeK P M w0 { dst:=d,op:=.pick c a b,type:=ty,pos:=ps,after:=af,guard:=g } ρ K=(boolK (ev ρ c) fun t=>K (put ρ d (if t=true then ev ρ a else ev ρ b))):=nr rfl
theorem take_nilCheck (x:Operand):takeK P M w0 { dst:=d,op:=.nilCheck x,type:=ty,pos:=ps,after:=af,guard:=g } ρ K=(addrK (ev ρ x) fun a=>K (put ρ d (.pointer (some a)))):=nr rfl
theorem take_fieldAddr (T:TypeId) (x:Operand) (k:Nat):takeK P M w0 { dst:=d,op:=.fieldAddr T x k,type:=ty,pos:=ps,after:=af,guard:=g } ρ K=(addrK (ev ρ x) fun a=>optK (fieldOff P T k) fun n=>optK (addOff a n) fun a'=>K (put ρ d (.pointer (some a')))):=nr rfl
theorem take_indexAddr (T:TypeId) (x i:Operand):takeK P M w0 { dst:=d,op:=.indexAddr T x i,type:=ty,pos:=ps,after:=af,guard:=g } ρ K=(optK (elemSize P T) fun s=>sliceK (ev ρ x) fun base len _=>intK (ev ρ i) fun _ j=>optK (idxO j len) fun j=>optK base fun a=>optK (addOff a (j * s)) fun a'=>K (put ρ d (.pointer (some a')))):=nr rfl
theorem take_binOp (op:BinOp) (T U:TypeId) (x y:Operand):takeK P M w0 { dst:=d,op:=.binOp op T x y U,type:=ty,pos:=ps,after:=af,guard:=g } ρ K=(optK (binNil P op T y (ev ρ x) (ev ρ y)) fun v=>K (put ρ d v)):=nr rfl
theorem take_not (T:TypeId) (x:Operand):takeK P M w0 { dst:=d,op:=.unOp .not T x,type:=ty,pos:=ps,after:=af,guard:=g } ρ K=(boolK (ev ρ x) fun t=>K (put ρ d (.bool (!t)))):=nr rfl
theorem take_convert (S T:TypeId) (x:Operand):takeK P M w0 { dst:=d,op:=.convert S T x,type:=ty,pos:=ps,after:=af,guard:=g } ρ K=(optK (convV P S T (ev ρ x)) fun v=>K (put ρ d v)):=nr rfl
theorem take_slice (T:TypeId) (x:Operand) (lo hi mx:Option Operand):takeK P M w0 { dst:=d,op:=.slice T x lo hi mx,type:=ty,pos:=ps,after:=af,guard:=g } ρ K=(optK (sliceV P T (lo.map (ev ρ)) (hi.map (ev ρ)) (mx.map (ev ρ)) (ev ρ x)) fun v=>K (put ρ d v)):=nr rfl
theorem take_load (T:TypeId) (x:Operand):takeK P M w0 { dst:=d,op:=.load T x,type:=ty,pos:=ps,after:=af,guard:=g } ρ K=(addrK (ev ρ x) fun a=>optK (ldM P T M w0 a) fun v=>K (put ρ d v)):=nr rfl
theorem take_builtin (b:Builtin) (args:Array Operand) (ats:Array TypeId):takeK P M w0 { dst:=d,op:=.call { callee:=.builtin b,args:=args,argTypes:=ats },type:=ty,pos:=ps,after:=af,guard:=g } ρ K=(plainB b=true∧optK (bltK P b ats (args.map (ev ρ))) fun v=>K (put ρ d v)):=nr rfl
theorem WPp_done : WPp P ops M w0 .done Kw ρ w=Kw ρ w:=nr rfl
theorem WPp_take (i:Nat) (r:Plan):WPp P ops M w0 (.take i r) Kw ρ w=if wantedR ops (ops.getD i nop) ρ=true then takeK P M w0 (ops.getD i nop) ρ (fun ρ'=>WPp P ops M w0 r Kw ρ' w) else WPp P ops M w0 r Kw (put ρ (ops.getD i nop).dst undef) w:=nr rfl
theorem WPp_only (i:Nat) (r:Plan):WPp P ops M w0 (.only i r) Kw ρ w=if wantedR ops (ops.getD i nop) ρ=true then stepK P (ops.getD i nop) ρ w (fun ρ' w'=>Upd M w0 w'∧WPp P ops M w0 r Kw ρ' w') else WPp P ops M w0 r Kw (put ρ (ops.getD i nop).dst undef) w:=nr rfl
theorem WPp_last (i:Nat):WPp P ops M w0 (.last i) Kw ρ w=if wantedR ops (ops.getD i nop) ρ=true then stepK P (ops.getD i nop) ρ w Kw else Kw (put ρ (ops.getD i nop).dst undef) w:=nr rfl
theorem WPp_two (i j:Nat) (r s:Plan):WPp P ops M w0 (.two i r j s) Kw ρ w=((if wantedR ops (ops.getD i nop) ρ=true then stepK P (ops.getD i nop) ρ w (fun ρ' w'=>Upd M w0 w'∧WPp P ops M w0 r Kw ρ' w') else WPp P ops M w0 r Kw (put ρ (ops.getD i nop).dst undef) w) ∧
  (if wantedR ops (ops.getD j nop) ρ=true then stepK P (ops.getD j nop) ρ w (fun ρ' w'=>Upd M w0 w'∧WPp P ops M w0 s Kw ρ' w') else WPp P ops M w0 s Kw (put ρ (ops.getD j nop).dst undef) w)):=nr rfl
end
section
variable {P : Program} (ρ:Regs) (w:World) (k:List Value→Prop) (rs:List ResultVar)
theorem resK_nil : resK P [] ρ w k=k []:=nr rfl
theorem resK_tmp (t:Nat):resK P (.tmp t :: rs) ρ w k=resK P rs ρ w fun vs=>k (ρ t :: vs):=nr rfl
theorem resK_cell (t:Nat) (T:TypeId):resK P (.cell t T :: rs) ρ w k=(addrK (ρ t) fun a=>optK (loadOf P T w a) fun v=>resK P rs ρ w fun vs=>k (v :: vs)):=nr rfl
end


def fixedS (n:Int):Nat→List UInt8
 | 0=>[]
 | k+1=>b8 (n.fdiv (2 ^ (8 * k))) :: fixedS n k
theorem fixedS_len (n:Int) (k:Nat):(fixedS n k).length=k:=by induction k<;>simp [fixedS, *]

def wholeS (s:List UInt8):List UInt8:=s.take 32767
def thingsS (l:List Tree):List Tree:=l.take 32767
def Tree.at (t:Tree) (i:Nat):Tree:=t.l.getD i .zero
def hasS (f:Fld) (v:Int):Bool:=decide (f.fr≤v) && (decide (f.to < 0) || decide (v≤f.to))
def nullS (f:Fld) (v:Int) (t:Tree):Bool:=t.null && decide (f.null ≥ 0) && decide (v ≥ f.null)
def widthS (k:Int):Nat:=if k=1 then 1 else if k=2 then 2 else if k=5 then 2 else if k=3 then 4 else 8
theorem widthS_le (k:Int):widthS k≤8:=by
 unfold widthS
 split
 ·omega
 ·split
  ·omega
  ·split
   ·omega
   ·split<;>omega

def uvarS (n:Nat):List UInt8 :=
 if h:127 < n then b8 ((n % 128:Nat)+128:Int) :: uvarS (n / 128) else [b8 n]
termination_by n
decreasing_by omega
theorem uvarS_big {n:Nat} (h:127 < n):uvarS n=b8 ((n % 128:Nat)+128:Int) :: uvarS (n / 128):=by rw [uvarS];simp [h]
theorem uvarS_small {n:Nat} (h:n≤127):uvarS n=[b8 n]:=by rw [uvarS];simp;omega
theorem uvarS_len (k:Nat):∀ n,n < 2 ^ (7 * (k+1))→(uvarS n).length≤k+1:=by
 induction k with
 | zero=>intro n hn;rw [uvarS_small (by simpa using Nat.le_of_lt_succ hn)];simp
 | succ k ih =>
  intro n hn
  rcases Nat.lt_or_ge 127 n with h|h
  ·rw [uvarS_big h,List.length_cons]
   have:n / 128 < 2 ^ (7 * (k+1)):=by
    rw [Nat.div_lt_iff_lt_mul (by omega)]
    have e:2 ^ (7 * (k+1+1))=2 ^ (7 * (k+1)) * 128:=by
     rw [show 7 * (k+1+1)=7 * (k+1)+7 by omega,Nat.pow_add]
    omega
   have:=ih _ this;omega
  ·rw [uvarS_small h];simp
theorem uvarS_pos (n:Nat):1≤(uvarS n).length:=by
 rcases Nat.lt_or_ge 127 n with h|h
 ·rw [uvarS_big h];simp
 ·rw [uvarS_small h];simp

def countedS (flex null:Bool) (n size:Nat):List UInt8 :=
 if flex=true∧null=true then [0] else if flex=true then uvarS (n+1) else if null=true then fixedS (-1) size else fixedS n size

def knownS (fs:List Fld):Nat:=fs.foldl (fun n f=>if 0≤f.tag then max n (f.tag.toNat+1) else n) 0

def insTag (least:Nat) (out:List TagD) (t:TagD):List TagD :=
 if t.1 < least∨((out.dropWhile fun x=>decide (x.1 < t.1)).head?.map (·.1))=some t.1 then out
 else (out.takeWhile fun x=>decide (x.1 < t.1))++t :: (out.dropWhile fun x=>decide (x.1 < t.1))
def unknownS (fs:List Fld) (l:List TagD):List TagD:=(l.take 32767).foldl (insTag (knownS fs)) []

def usualS : Nat→Fld→Tree→Bool
 | 0,_,_=>false
 | d+1,f,t =>
  if f.kind=0 then decide (t.n % 2=f.df)
  else if f.kind=7 then (t.s.take 16).all (· == 0)
  else if f.kind=8∨f.kind=9 then (if 0≤f.null then t.null else decide (t.s.length=0))
  else if f.kind=11 then decide (t.l.length=0)
  else if f.kind=10 then (f.sub.zipIdx.all fun (g,i)=>usualS d g (t.at i)) && decide ((unknownS f.sub t.u).length=0)
  else decide (fixedS t.n (widthS f.kind)=fixedS f.df (widthS f.kind))

def valueS (pt:List Fld→Int→Bool→Tree→List UInt8) (kind:Int) (sub:List Fld) (null:Bool) (v:Int) (flex:Bool) (t:Tree):List UInt8 :=
 if kind=0 then [b8 (t.n % 2)]
 else if kind=7 then (t.s.take 16)++List.replicate (16 - t.s.length) 0
 else if kind=8 then countedS flex null (if null=true then [] else wholeS t.s).length 2++(if null=true then [] else wholeS t.s)
 else if kind=9 then countedS flex null (if null=true then [] else wholeS t.s).length 4++(if null=true then [] else wholeS t.s)
 else if kind=10 then pt sub v flex t
 else fixedS t.n (widthS kind)

def fieldS (pt:List Fld→Int→Bool→Tree→List UInt8) (f:Fld) (v:Int) (flex:Bool) (t:Tree):List UInt8 :=
 if f.kind=11 then
  countedS flex (nullS f v t) (if nullS f v t=true then [] else thingsS t.l).length 4++(if nullS f v t=true then [] else thingsS t.l).flatMap fun x=>valueS pt f.of f.sub false v flex x
 else if f.kind=10∧0≤f.null then (if nullS f v t=true then fixedS (-1) 1 else fixedS 1 1++pt f.sub v flex t)
 else valueS pt f.kind f.sub (nullS f v t) v flex t

def plainS (pt:List Fld→Int→Bool→Tree→List UInt8) (fs:List Fld) (v:Int) (flex:Bool) (t:Tree):List UInt8 :=
 fs.zipIdx.flatMap fun (f,i)=>if f.tag < 0∧hasS f v=true then fieldS pt f v flex (t.at i) else []
def tagsS (pt:List Fld→Int→Bool→Tree→List UInt8) (d:Nat) (fs:List Fld) (v:Int) (flex:Bool) (t:Tree):List TagD :=
 (List.range (knownS fs)).flatMap fun tag=>fs.zipIdx.filterMap fun (f,i)=>if f.tag=tag∧usualS d f (t.at i)=false then some (tag,fieldS pt f v flex (t.at i)) else none
def oneTag (u:TagD):List UInt8:=uvarS u.1++uvarS u.2.length++u.2
def partS : Nat→List Fld→Int→Bool→Tree→List UInt8
 | 0,_,_,_,_=>[]
 | d+1,fs,v,flex,t =>
  if flex=true then
   plainS (partS d) fs v flex t ++
    (uvarS ((tagsS (partS d) (d+1) fs v flex t).length+(unknownS fs t.u).length) ++
     ((tagsS (partS d) (d+1) fs v flex t).flatMap oneTag++(unknownS fs t.u).flatMap fun u=>oneTag (u.1,wholeS u.2)))
  else plainS (partS d) fs v flex t

def okF : Nat→List Fld→Bool
 | 0,fs=>fs.isEmpty
 | d+1,fs=>Nat.ble fs.length 1000 && fs.all fun f=>decide (0≤f.kind∧f.kind≤11 ∧ -1≤f.tag∧f.tag≤1000 ∧ -9223372036854775808≤f.df∧f.df≤9223372036854775807∧0≤f.of∧f.of≤10) && okF d f.sub


theorem SlR.shape {α:Type} {ok:Blocks} {w:World} {size:Nat} {R:α→List Value→Prop} {v:Value} {xs:List α} (h:SlR ok w size R v xs):∃ base cap,v = .slice base xs.length cap∧xs.length≤cap:=by
 obtain ⟨css,⟨b,c,h1,h2,_⟩,h3,_⟩:=h
 exact ⟨b,c,by rw [h1,h3],by omega⟩
theorem Sl.flat {ok:Blocks} {w:World} {size:Nat} {v:Value} {css:List (List Value)} (h:Sl ok w size v css):Ms.flat v=true:=by
 obtain ⟨b,c,rfl,_⟩:=h;rfl
theorem SlR.flat {α:Type} {ok:Blocks} {w:World} {size:Nat} {R:α→List Value→Prop} {v:Value} {xs:List α} (h:SlR ok w size R v xs):Ms.flat v=true:=by
 obtain ⟨css,h1,_⟩:=h;exact h1.flat
theorem BytesV.flat {ok:Blocks} {w:World} {v:Value} {s:List UInt8} (h:BytesV ok w v s):Ms.flat v=true:=Sl.flat h
theorem SlR.get {α:Type} {ok:Blocks} {w:World} {size:Nat} {R:α→List Value→Prop} {base:Option Addr} {n cap:Nat} {xs:List α} (hz:0 < size) (h:SlR ok w size R (.slice base n cap) xs) {i:Nat} (hi:i < xs.length) :
  n=xs.length∧∃ b o x cs,base=some ⟨b,o,none⟩∧ok b∧blk w b=some x∧b < w.heap.size∧o+(i * size+size)≤x.1.size∧x.1.extract (o+i * size) (o+(i * size+size))=cs.toArray ∧
   (∀ j,j < size→x.1[o+(i * size+j)]? = cs[j]?)∧R xs[i] cs:=by
 obtain ⟨css,h1,h2,h3⟩:=h
 obtain ⟨e,b,o,x,h4,h5,h6,h7,h8,h9⟩:=Sl.get hz h1 (i:=i) (by omega)
 refine ⟨by omega,b,o,x,css[i]'(by omega),h4,h5,h6,blk_lt h6,by omega,by rw [← Nat.add_assoc];exact h8,fun j hj=>by rw [← Nat.add_assoc];exact h9 j hj,h3 i hi (by omega)⟩

theorem FldsV.get {ok:Blocks} {w:World} {base:Option Addr} {n cap:Nat} {xs:List Fld} (h:FldsV ok w (.slice base n cap) xs) {i:Nat} (hi:i < xs.length) :
  n=xs.length∧∃ b o x vs,base=some ⟨b,o,none⟩∧ok b∧blk w b=some x∧b < w.heap.size∧o+(i * 8+8)≤x.1.size ∧
   x.1.extract (o+i * 8) (o+(i * 8+8))=#[.int .i64 xs[i].kind,.int .i64 xs[i].fr,.int .i64 xs[i].to,.int .i64 xs[i].null,.int .i64 xs[i].tag,.int .i64 xs[i].df,.int .i64 xs[i].of,vs]∧flat vs=true∧FldsV ok w vs xs[i].sub:=by
 obtain ⟨e,b,o,x,cs,h1,h2,h3,h4,h5,h6,h7,h8⟩:=SlR.get (by omega) h hi
 obtain ⟨vs,rfl,h9⟩:=h8.inv
 exact ⟨e,b,o,x,vs,h1,h2,h3,h4,h5,h6,SlR.flat h9,h9⟩
theorem TreesV.get {ok:Blocks} {w:World} {base:Option Addr} {n cap:Nat} {xs:List Tree} (h:TreesV ok w (.slice base n cap) xs) {i:Nat} (hi:i < xs.length) :
  n=xs.length∧∃ b o x vS vL vU,base=some ⟨b,o,none⟩∧ok b∧blk w b=some x∧b < w.heap.size∧o+(i * 5+5)≤x.1.size ∧
   x.1.extract (o+i * 5) (o+(i * 5+5))=#[.int .i64 xs[i].n,vS,.bool xs[i].null,vL,vU]∧flat vS=true∧flat vL=true∧flat vU=true∧TreeC ok w xs[i] [.int .i64 xs[i].n,vS,.bool xs[i].null,vL,vU]:=by
 obtain ⟨e,b,o,x,cs,h1,h2,h3,h4,h5,h6,h7,h8⟩:=SlR.get (by omega) h hi
 obtain ⟨vS,vL,vU,rfl,h9,h10,h11,h12⟩:=h8.inv
 exact ⟨e,b,o,x,vS,vL,vU,h1,h2,h3,h4,h5,h6,h10.flat,SlR.flat h11,SlR.flat h12,h8⟩
theorem TagsV.get {ok:Blocks} {w:World} {base:Option Addr} {n cap:Nat} {xs:List TagD} (h:TagsV ok w (.slice base n cap) xs) {i:Nat} (hi:i < xs.length) :
  n=xs.length∧∃ b o x vv,base=some ⟨b,o,none⟩∧ok b∧blk w b=some x∧b < w.heap.size∧o+(i * 2+2)≤x.1.size ∧
   x.1.extract (o+i * 2) (o+(i * 2+2))=#[.int .u32 xs[i].1,vv]∧x.1[o+i * 2]? = some (.int .u32 xs[i].1)∧x.1[o+(i * 2+1)]? = some vv∧flat vv=true∧BytesV ok w vv xs[i].2∧xs[i].1 < 2 ^ 32:=by
 obtain ⟨e,b,o,x,cs,h1,h2,h3,h4,h5,h6,h7,vv,rfl,h9,h10⟩:=SlR.get (by omega) h hi
 exact ⟨e,b,o,x,vv,h1,h2,h3,h4,h5,h6,by simpa using h7 0 (by omega),by simpa using h7 1 (by omega),h9.flat,h9,h10⟩

theorem Seg.take {ok:Blocks} {w:World} {a:Addr} {cs:List Value} (h:Seg ok w a cs) (k:Nat):Seg ok w a (cs.take k):=by
 obtain ⟨h1,h2,x,hx,h3⟩:=h
 refine ⟨h1,h2,x,hx,fun i hi => ?_⟩
 simp only [List.length_take] at hi
 rw [h3 i (by omega),List.getElem?_take_of_lt (by omega)]
theorem flatten_take {css:List (List Value)} {size:Nat} (hs:∀ cs∈css,cs.length=size) (k:Nat):(css.take k).flatten=css.flatten.take (k * size):=by
 induction css generalizing k with
 | nil=>simp
 | cons c css ih =>
  have hc:c.length=size:=hs c (by simp)
  cases k with
  | zero=>simp
  | succ k =>
   simp only [List.take_succ_cons,List.flatten_cons,ih (fun cs h=>hs cs (by simp [h])),List.take_append,hc]
   have e1:(k+1) * size - size=k * size:=by rw [Nat.succ_mul];omega
   have e2:c.length≤(k+1) * size:=by rw [hc,Nat.succ_mul];omega
   rw [e1,List.take_of_length_le e2]
theorem Sl.take {ok:Blocks} {w:World} {size:Nat} {base:Option Addr} {n cap:Nat} {css:List (List Value)} (h:Sl ok w size (.slice base n cap) css) (k:Nat) (hk:k≤css.length) :
  Sl ok w size (.slice (slBase base 0 cap size) k cap) (css.take k):=by
 obtain ⟨b,c,h1,h2,h3,h4⟩:=h
 cases h1
 have hl:(css.take k).length=k:=by simp;omega
 refine ⟨_,cap,by rw [hl],by omega,fun cs h=>h3 cs (List.mem_of_mem_take h),?_⟩
 rcases h4 with h4|⟨a,ha,hs⟩
 ·exact .inl (by rw [h4];simp)
 ·by_cases h0:css.take k=[]
  ·exact .inl h0
  ·refine .inr ⟨a,?_,by rw [flatten_take h3];exact hs.take _⟩
   subst ha
   obtain ⟨ab,ao,asp⟩:=a
   have:cap≠0:=by intro e;apply h0;apply List.eq_nil_of_length_eq_zero;omega
   simp only [slBase,this,if_false,Option.map_some,Nat.zero_mul]
   obtain ⟨hs1,_⟩:=hs
   simp only at hs1
   subst hs1
   rfl
theorem BytesV.take {ok:Blocks} {w:World} {base:Option Addr} {n cap:Nat} {s:List UInt8} (h:BytesV ok w (.slice base n cap) s) (k:Nat) (hk:k≤s.length) :
  BytesV ok w (.slice (slBase base 0 cap 1) k cap) (s.take k):=by
 have:=Sl.take h k (by simpa using hk)
 rw [← List.map_take] at this;exact this
theorem SlR.take {α:Type} {ok:Blocks} {w:World} {size:Nat} {R:α→List Value→Prop} {base:Option Addr} {n cap:Nat} {xs:List α} (h:SlR ok w size R (.slice base n cap) xs) (k:Nat) (hk:k≤xs.length) :
  SlR ok w size R (.slice (slBase base 0 cap size) k cap) (xs.take k):=by
 obtain ⟨css,h1,h2,h3⟩:=h
 refine ⟨css.take k,h1.take k (by omega),by simp;omega,fun i h4 h5 => ?_⟩
 simp only [List.length_take] at h4 h5
 simp only [List.getElem_take]
 exact h3 i (by omega) (by omega)

theorem take_min {α:Type} (l:List α):l.take (min l.length 32767)=l.take 32767:=by
 rcases Nat.le_total l.length 32767 with h|h
 ·rw [Nat.min_eq_left h,List.take_length,List.take_of_length_le h]
 ·rw [Nat.min_eq_right h]

theorem knownS_le {fs:List Fld} (h:∀ f∈fs,f.tag≤1000):knownS fs≤1001:=by
 have:∀ (fs:List Fld) (n:Nat),n≤1001→(∀ f∈fs,f.tag≤1000)→fs.foldl (fun n f=>if 0≤f.tag then max n (f.tag.toNat+1) else n) n≤1001:=by
  intro fs
  induction fs with
  | nil=>intro n hn _;exact hn
  | cons f fs ih =>
   intro n hn h
   refine ih _ ?_ fun g hg=>h g (by simp [hg])
   have:=h f (by simp)
   show (if 0≤f.tag then max n (f.tag.toNat+1) else n)≤1001
   split<;>omega
 exact this fs 0 (by omega) h
theorem knownS_snoc (fs:List Fld) (i:Nat) (h:i < fs.length):knownS (fs.take (i+1))=if 0≤fs[i].tag then max (knownS (fs.take i)) (fs[i].tag.toNat+1) else knownS (fs.take i):=by
 rw [List.take_succ_eq_append_getElem h]
 simp only [knownS,List.foldl_append,List.foldl_cons,List.foldl_nil]
end Ms

namespace Ms
open Go Go.RowKit

def Css (size:Nat) (css:List (List Value)):Prop:=∀ cs∈css,cs.length=size

def OwnE (B:Nat) (w:World) (E:TypeId) (size:Nat) (v:Value) (css:List (List Value)):Prop:=Own B w E size v css.length css.flatten∧Css size css

theorem thaw_of {fr:Nat × Nat} {o n m:Nat} (h:thaw fr 0 m=true) (hl:o+n≤m):thaw fr o n=true:=by
 simp only [thaw,Bool.or_eq_true,Nat.ble_eq] at h ⊢
 omega
theorem OwnE.view {B:Nat} {w:World} {E:TypeId} {size:Nat} {v:Value} {css:List (List Value)} (h:OwnE B w E size v css) (hp:0 < css.length) :
  ∃ g cap x,v = .slice (some ⟨g,0,none⟩) css.length cap∧css.length≤cap∧B≤g∧g < w.heap.size∧blk w g=some x ∧
   (∀ i,i < css.length→i * size+size≤x.1.size∧thaw x.2.2 (i * size) size=true) ∧
   (∀ i (hi:i < css.length),x.1.extract (i * size) (i * size+size)=(css[i]).toArray) ∧
   (∀ i (hi:i < css.length) j,j < size→x.1[i * size+j]? = (css[i])[j]?):=by
 obtain ⟨⟨h0,h1⟩,hc⟩:=h
 rcases h1 with ⟨_,h1⟩|⟨g,cap,rest,fr,h1,h2,h3,h4,h5,h6⟩
 ·omega
 ·have hlen:=flatten_len hc
  have key:∀ i (hi:i < css.length) j,j < size→(css.flatten++rest).toArray[i * size+j]? = (css[i])[j]?:=by
   intro i hi j hj
   have hm:(i+1) * size≤css.length * size:=Nat.mul_le_mul_right _ hi
   rw [Nat.succ_mul] at hm
   have hlt:i * size+j < css.flatten.length:=by omega
   simp only [List.getElem?_toArray,List.getElem?_append,hlt,if_true]
   exact flatten_get hc i hi j hj
  refine ⟨g,cap,_,h1,h6,h2,blk_lt h3,h3,fun i hi => ?_,fun i hi => ?_,key⟩
  ·have hm:(i+1) * size≤css.length * size:=Nat.mul_le_mul_right _ hi
   have a8:css.length * size≤cap * size:=Nat.mul_le_mul_right _ h6
   rw [Nat.succ_mul] at hm
   refine ⟨?_,thaw_of h5 (by omega)⟩
   simp only [List.size_toArray,List.length_append];omega
  ·have hm:(i+1) * size≤css.length * size:=Nat.mul_le_mul_right _ hi
   rw [Nat.succ_mul] at hm
   have hci:(css[i]).length=size:=hc _ (List.getElem_mem hi)
   apply Array.ext_getElem?
   intro j
   by_cases hj:j < size
   ·have:=key i hi j hj
    simp only [Array.getElem?_extract,List.getElem?_toArray]
    rw [← this]
    simp only [List.getElem?_toArray]
    simp only [Array.size_extract,List.size_toArray,List.length_append]
    rw [if_pos (by omega)]
   ·have h1:(css[i]).toArray[j]? = none:=by simp [hci];omega
    rw [h1]
    simp;omega
theorem OwnE.set {B:Nat} {w:World} {E:TypeId} {size g n cap:Nat} {css:List (List Value)} (h:OwnE B w E size (.slice (some ⟨g,0,none⟩) n cap) css) {i:Nat} (hi:i < css.length) {c:List Value} (hcl:c.length=size) :
  OwnE B (wr w g (i * size) c) E size (.slice (some ⟨g,0,none⟩) n cap) (css.set i c):=by
 obtain ⟨⟨h0,h1⟩,hc⟩:=h
 have hc':Css size (css.set i c):=fun cs h=>by
  rcases List.mem_or_eq_of_mem_set h with h|h
  ·exact hc _ h
  ·rw [h];exact hcl
 have hlen:=flatten_len hc
 have hlen':=flatten_len hc'
 simp only [List.length_set] at hlen'
 have hm:(i+1) * size≤css.length * size:=Nat.mul_le_mul_right _ hi
 rw [Nat.succ_mul] at hm
 refine ⟨⟨by rw [hlen'];simp,?_⟩,hc'⟩
 rcases h1 with ⟨h1,_⟩|⟨g',cap',rest,fr,h1,h2,h3,h4,h5,h6⟩
 ·cases h1
 ·cases h1
  refine .inr ⟨g,cap,rest,fr,by simp,h2,?_,by omega,h5,by simpa using h6⟩
  rw [blk_wr_eq,h3,Option.map_some]
  congr 2
  apply Array.ext_getElem?
  intro k
  rw [wrArr_get]
  simp only [List.size_toArray,List.length_append,List.getElem?_toArray,hcl]
  by_cases hk:k < css.length * size
  ·rcases Nat.eq_zero_or_pos size with hz|hz
   ·simp [hz] at hk
   have e1:k=k / size * size+k % size:=by rw [Nat.mul_comm];exact (Nat.div_add_mod k size).symm
   have hmod:=Nat.mod_lt k hz
   have hq:k / size < css.length:=by rw [Nat.div_lt_iff_lt_mul hz];exact hk
   have g1:=flatten_get hc (k / size) hq (k % size) hmod
   have g2:=flatten_get hc' (k / size) (by simpa using hq) (k % size) hmod
   rw [← e1] at g1 g2
   have l1:k < css.flatten.length:=by omega
   have l2:k < (css.set i c).flatten.length:=by omega
   simp only [List.getElem?_append,l1,l2,if_true]
   rw [g1,g2]
   by_cases hq2:k / size=i
   ·subst hq2
    rw [if_pos (by omega),List.getElem_set_self]
    congr 1;omega
   ·rw [List.getElem_set_ne (by omega)]
    rw [if_neg]
    rintro ⟨a1,a2,_⟩
    apply hq2
    have:k / size=i:=by
     rw [Nat.div_eq_iff hz];omega
    exact this
  ·have l1:¬ k < css.flatten.length:=by omega
   have l2:¬ k < (css.set i c).flatten.length:=by omega
   rw [if_neg (by omega)]
   simp only [List.getElem?_append,l1,l2,if_false]
   congr 1;omega
theorem OwnE.nil (B:Nat) (w:World) (E:TypeId) (size:Nat):OwnE B w E size (.slice none 0 0) []:=⟨Own.nil _ _ _ _,by simp [Css]⟩
theorem OwnE.shape {B:Nat} {w:World} {E:TypeId} {size:Nat} {v:Value} {css:List (List Value)} (h:OwnE B w E size v css):∃ a c,v = .slice a css.length c∧css.length≤c:=h.1.shape
theorem OwnE.alloc {B:Nat} {w:World} {E:TypeId} {size:Nat} {v:Value} {css:List (List Value)} (h:OwnE B w E size v css) (o:Obj):OwnE B (w.alloc o) E size v css:=⟨h.1.alloc o,h.2⟩
theorem OwnE.upd {S:Nat→Prop} {B:Nat} {w w':World} {E:TypeId} {size:Nat} {v:Value} {css:List (List Value)} (h:OwnE B w E size v css) (u:Upd S w w') (hs:∀ b,ownB v b→¬ S b):OwnE B w' E size v css:=⟨h.1.upd u hs,h.2⟩
theorem OwnE.snoc {B:Nat} {w:World} {E:TypeId} {size n:Nat} {v:Value} {css:List (List Value)} {c:List Value} (hc:Css size css) (hl:c.length=size) (h:Own B w E size v (n+1) (css.flatten++c)) (hn:n=css.length):OwnE B w E size v (css++[c]):=by
 subst hn
 refine ⟨by simpa using h,fun cs hm => ?_⟩
 rcases List.mem_append.1 hm with h|h
 ·exact hc _ h
 ·simp only [List.mem_singleton] at h;rw [h];exact hl
theorem OwnE.sl {B:Nat} {w:World} {E:TypeId} {size:Nat} {v:Value} {css:List (List Value)} (h:OwnE B w E size v css) {ok:Blocks} (hok:∀ b,ownB v b→ok b):Sl ok w size v css:=h.1.sl h.2 hok

theorem takeK_congr {P:Program} {M:Nat→Prop} {w0:World} {o o':Oper} {ρ:Regs} {K:Regs→Prop} (h:o=o'):takeK P M w0 o ρ K=takeK P M w0 o' ρ K:=by rw [h]
theorem stepK_congr {P:Program} {o o':Oper} {ρ:Regs} {w:World} {K:Regs→World→Prop} (h:o=o'):stepK P o ρ w K=stepK P o' ρ w K:=by rw [h]

def exitQ (i:Nat) (J:Regs→World→Prop):Exit→Regs→World→Prop:=fun e ρ w=>e = .exit i∧J ρ w
def normQ (J:Regs→World→Prop):Exit→Regs→World→Prop:=fun e ρ w=>e = .normal∧J ρ w
theorem exitQ_exit (i:Nat) (J:Regs→World→Prop) (ρ:Regs) (w:World):exitQ i J (.exit i) ρ w=J ρ w:=by simp [exitQ]
theorem normQ_normal (J:Regs→World→Prop) (ρ:Regs) (w:World):normQ J .normal ρ w=J ρ w:=by simp [normQ]
theorem W.exitJ {P:Program} {n:Nat} {c:Code} {Q:Exit→Regs→World→Prop} {ρ:Regs} {w:World} (i:Nat) (J:Regs→World→Prop) (h:W P n c (exitQ i J) ρ w) (hq:∀ ρ w,J ρ w→Q (.exit i) ρ w):W P n c Q ρ w :=
 h.mono fun e ρ w ⟨he,hj⟩=>he ▸ hq ρ w hj
theorem W.normJ {P:Program} {n:Nat} {c:Code} {Q:Exit→Regs→World→Prop} {ρ:Regs} {w:World} (J:Regs→World→Prop) (h:W P n c (normQ J) ρ w) (hq:∀ ρ w,J ρ w→Q .normal ρ w):W P n c Q ρ w :=
 h.mono fun e ρ w ⟨he,hj⟩=>he ▸ hq ρ w hj

theorem while_at {α:Type} {p:α→Bool} {l:List α} {i:Nat} (hi:i≤l.length) (h:∀ j (hj:j < l.length),j < i→p l[j] = true) (he:∀ hi:i < l.length,p l[i] = false) :
  l.takeWhile p=l.take i∧l.dropWhile p=l.drop i:=by
 induction l generalizing i with
 | nil=>simp
 | cons a l ih =>
  cases i with
  | zero =>
   have:=he (by simp)
   simp only [List.getElem_cons_zero] at this
   simp [this]
  | succ i =>
   have h0:=h 0 (by simp) (by omega)
   simp only [List.getElem_cons_zero] at h0
   have:=ih (i:=i) (by simpa using hi) (fun j hj hji=>h (j+1) (Nat.succ_lt_succ hj) (by omega)) (fun hlt=>he (Nat.succ_lt_succ hlt))
   simp [h0,this]
end Ms

namespace Ms
open Go

theorem insTag_out {K:Nat} {out:List TagD} {t:TagD} {i:Nat} (hi:i≤out.length) (hlo:∀ j (hj:j < out.length),j < i→out[j].1 < t.1) (hhi:∀ hi:i < out.length,t.1≤out[i].1)
  (h:t.1 < K∨∃ hi:i < out.length,out[i].1=t.1):insTag K out t=out:=by
 have hw:=while_at (p:=fun x:TagD=>decide (x.1 < t.1)) hi (fun j hj hji=>by simpa using hlo j hj hji) (fun hi=>by simpa using hhi hi)
 rw [insTag,if_pos]
 rw [hw.2]
 rcases h with h|⟨h1,h2⟩
 ·exact .inl h
 ·right
  rw [List.head?_drop,List.getElem?_eq_getElem h1,Option.map_some,h2]
theorem insTag_in {K:Nat} {out:List TagD} {t:TagD} {i:Nat} (hi:i≤out.length) (hlo:∀ j (hj:j < out.length),j < i→out[j].1 < t.1) (hhi:∀ hi:i < out.length,t.1≤out[i].1)
  (h:¬ t.1 < K) (h':∀ hi:i < out.length,out[i].1≠t.1):insTag K out t=out.take i++t :: out.drop i:=by
 have hw:=while_at (p:=fun x:TagD=>decide (x.1 < t.1)) hi (fun j hj hji=>by simpa using hlo j hj hji) (fun hi=>by simpa using hhi hi)
 rw [insTag,if_neg,hw.1,hw.2]
 rw [hw.2]
 rintro (h1|h1)
 ·exact h h1
 ·rw [List.head?_drop] at h1
  rcases Nat.lt_or_ge i out.length with h2|h2
  ·rw [List.getElem?_eq_getElem h2,Option.map_some] at h1
   exact h' h2 (by simpa using h1)
  ·rw [List.getElem?_eq_none h2] at h1;simp at h1

theorem cellsAt_two (a b:Value):cellsAt #[a,b] 0 2=some (.agg #[a,b]):=by simp [cellsAt]
theorem cellsAt_five (a b c d e:Value):cellsAt #[a,b,c,d,e] 0 5=some (.agg #[a,b,c,d,e]):=by simp [cellsAt]
theorem cellsAt_eight (a b c d e f g h:Value):cellsAt #[a,b,c,d,e,f,g,h] 0 8=some (.agg #[a,b,c,d,e,f,g,h]):=by simp [cellsAt]
theorem shift_set {α:Type} {l:List α} {k:Nat} (hk:k < l.length) (c:α):(l.take (k+1)++c :: l.drop (k+1)).set (k+1) l[k] = l.take k++l[k] :: l.drop k:=by
 have hl:(l.take (k+1)).length=k+1:=by simp;omega
 rw [List.set_append_right _ _ (by omega),hl,Nat.sub_self,List.set_cons_zero,List.take_succ_eq_append_getElem hk,List.append_assoc,List.drop_eq_getElem_cons hk]
 rfl
theorem shift_get {α:Type} {l:List α} {k:Nat} (hk:k < l.length) (c:α) (h:k < (l.take (k+1)++c :: l.drop (k+1)).length):(l.take (k+1)++c :: l.drop (k+1))[k] = l[k]:=by
 rw [List.getElem_append_left (by simp;omega),List.getElem_take]
theorem shift_in {α:Type} {l:List α} {k:Nat} (hk:k≤l.length) (c d:α):(l.take k++c :: l.drop k).set k d=l.take k++d :: l.drop k:=by
 have hl:(l.take k).length=k:=by simp;omega
 rw [List.set_append_right _ _ (by omega),hl,Nat.sub_self,List.set_cons_zero]
theorem shift_len {α:Type} (l:List α) (k:Nat) (c:α):(l.take k++c :: l.drop k).length=l.length+1:=by
 simp only [List.length_append,List.length_take,List.length_cons,List.length_drop];omega
theorem All2.insert {α β:Type} {R:α→β→Prop} {xs:List α} {ys:List β} (h:All2 R xs ys) {k:Nat} (hk:k≤xs.length) {x:α} {y:β} (hr:R x y):All2 R (xs.take k++x :: xs.drop k) (ys.take k++y :: ys.drop k):=by
 obtain ⟨h1,h2⟩:=h
 refine ⟨by rw [shift_len,shift_len,h1],fun i h3 h4 => ?_⟩
 have lx:(xs.take k).length=k:=by simp;omega
 have ly:(ys.take k).length=k:=by simp;omega
 rw [shift_len] at h3 h4
 rcases Nat.lt_trichotomy i k with h|h|h
 ·rw [List.getElem_append_left (by omega),List.getElem_append_left (by omega),List.getElem_take,List.getElem_take]
  exact h2 i (by omega) (by omega)
 ·subst h
  rw [List.getElem_append_right (by omega),List.getElem_append_right (by omega)]
  simp only [lx,ly,Nat.sub_self,List.getElem_cons_zero]
  exact hr
 ·obtain ⟨m,rfl⟩:∃ m,i=k+1+m:=⟨i - (k+1),by omega⟩
  rw [List.getElem_append_right (by omega),List.getElem_append_right (by omega)]
  have e:k+1+m - k=m+1:=by omega
  simp only [lx,ly,e,List.getElem_cons_succ,List.getElem_drop]
  exact h2 (k+m) (by omega) (by omega)
theorem All2.flat_cells {ok:Blocks} {w:World} {ts:List TagD} {css:List (List Value)} (h:All2 (TagC ok w) ts css):css.flatten.all flat=true:=by
 refine all_flatten fun cs hm => ?_
 obtain ⟨i,hi,rfl⟩:=List.getElem_of_mem hm
 obtain ⟨vv,h1,h2,_⟩:=h.2 i (by have:=h.1;omega) hi
 rw [h1]
 simp only [List.all_cons,List.all_nil,Bool.and_true]
 have:=h2
 obtain ⟨b,c,rfl,_⟩:=h2
 rfl

inductive Small (B:Nat):Tree→Prop
 | mk {n:Int} {s:List UInt8} {null:Bool} {l:List Tree} {u:List TagD} (hs:s.length≤B) (hl:l.length≤B) (hu:u.length≤B) (he:∀ i (h:i < l.length),Small B l[i])
   (hd:∀ x∈u,x.2.length≤B):Small B (.mk n s null l u)
theorem Small.s {B:Nat} {t:Tree} (h:Small B t):t.s.length≤B:=by cases h;assumption
theorem Small.l {B:Nat} {t:Tree} (h:Small B t):t.l.length≤B:=by cases h;assumption
theorem Small.u {B:Nat} {t:Tree} (h:Small B t):t.u.length≤B:=by cases h;assumption
theorem Small.d {B:Nat} {t:Tree} (h:Small B t):∀ x∈t.u,x.2.length≤B:=by cases h;assumption
theorem Small.e {B:Nat} {t:Tree} (h:Small B t):∀ i (h:i < t.l.length),Small B t.l[i]:=by cases h;assumption
theorem Small.zero (B:Nat):Small B .zero:=.mk (Nat.zero_le _) (Nat.zero_le _) (Nat.zero_le _) (fun i h=>by simp at h) (fun x h=>by simp at h)
theorem Small.at {B:Nat} {t:Tree} (h:Small B t) (i:Nat):Small B (t.at i):=by
 by_cases hi:i < t.l.length
 ·have:t.at i=t.l[i]:=by simp [Tree.at,hi]
  rw [this];exact h.e i hi
 ·have:t.at i = .zero:=by simp [Tree.at,hi]
  rw [this];exact Small.zero B

def okB (f:Fld):Prop:=0≤f.kind∧f.kind≤11 ∧ -1≤f.tag∧f.tag≤1000 ∧ -9223372036854775808≤f.df∧f.df≤9223372036854775807∧0≤f.of∧f.of≤10
theorem okF_len {d:Nat} {fs:List Fld} (h:okF d fs=true):fs.length≤1000:=by
 cases d with
 | zero=>simp only [okF,List.isEmpty_iff] at h;subst h;simp
 | succ d=>simp only [okF,Bool.and_eq_true,Nat.ble_eq] at h;exact h.1
theorem okF_el {d:Nat} {fs:List Fld} (h:okF d fs=true) {g:Fld} (hg:g∈fs):∃ e,d=e+1∧okB g∧okF e g.sub=true:=by
 cases d with
 | zero=>simp only [okF,List.isEmpty_iff] at h;subst h;simp at hg
 | succ d =>
  simp only [okF,Bool.and_eq_true,List.all_eq_true,decide_eq_true_eq] at h
  exact ⟨d,rfl,(h.2 g hg).1,(h.2 g hg).2⟩
theorem okF_tag {d:Nat} {fs:List Fld} (h:okF d fs=true):∀ f∈fs,f.tag≤1000:=fun f hf=>by
 obtain ⟨e,_,h1,_⟩:=okF_el h hf;exact h1.2.2.2.1
theorem zipIdx_all {α:Type} (l:List α) (p:α × Nat→Bool):l.zipIdx.all p=true↔∀ i (h:i < l.length),p (l[i],i)=true:=by
 rw [List.all_eq_true]
 constructor
 ·intro h i hi
  exact h _ (by rw [List.mem_zipIdx_iff_getElem?];simp [hi])
 ·rintro h ⟨a,i⟩ hm
  rw [List.mem_zipIdx_iff_getElem?] at hm
  obtain ⟨hi,he⟩:=List.getElem?_eq_some_iff.1 hm
  have:=h i hi
  simp only at he
  rw [he] at this;exact this
theorem and1 (x:Int):(BitVec.ofInt (kbits .i64) x &&& BitVec.ofInt (kbits .i64) 1).toNat=(x % 2).toNat:=by
 show (BitVec.ofInt 64 x &&& BitVec.ofInt 64 1).toNat=(x % 2).toNat
 have e:(BitVec.ofInt 64 1).toNat=2 ^ 1 - 1:=by decide
 rw [BitVec.toNat_and,e,Nat.and_two_pow_sub_one_eq_mod,BitVec.toNat_ofInt]
 omega
end Ms

namespace Ms
open Go Go.RowKit
section
variable {P : Program}

theorem wp_make {T E:TypeId} {size bytes:Nat} {z:Value} (hu:P.underlying T=some (.slice E)) (hi:(P.info? E).map (fun i=>(i.zero,i.size,i.bytes))=some (some z,size,bytes))
  {w:World} {ρ:Regs} {d:Option Nat} {x y:Operand} {type:TypeId} {pos:String} {after:Array Edge} {guard:Option (Nat × Bool)} {K:Regs→World→Prop} {kl kc:IntKind} {l c:Nat}
  (hl:ev ρ x = .int kl l) (hc:ev ρ y = .int kc c) (hlc:l≤c) (hb:bytes * c≤281474976710656) (hn:c≤4611686018427387904)
  (hk:K (put ρ d (.slice (some ⟨w.heap.size,0,none⟩) l c)) (w.alloc (.cells (madeCells z.cells (c * size)) E))) :
  rawK P { dst:=d,op:=.makeSlice T x y,type:=type,pos:=pos,after:=after,guard:=guard } ρ w K:=by
 refine ⟨?_⟩
 obtain ⟨i,h1,h2,h3,h4⟩:∃ i,P.info? E=some i∧i.zero=some z∧i.size=size∧i.bytes=bytes:=by
  obtain ⟨i,hi,hzz⟩:=Option.map_eq_some_iff.1 hi
  simp only [Prod.mk.injEq] at hzz
  exact ⟨i,hi,hzz.1,hzz.2.1,hzz.2.2⟩
 subst h3
 subst h4
 have hb':(i.bytes:Int) * (c:Int)≤281474976710656:=by
  have h:((i.bytes * c:Nat):Int)≤281474976710656:=by omega
  rwa [Int.natCast_mul] at h
 have hr:=run_make (P:=P) w T E i z hu h1 h2 kl kc (l:Int) (c:Int) (by omega) (by omega) hb' (by omega)
 simp only [Int.toNat_natCast] at hr
 have:(execOp (ev ρ) { dst:=d,op:=.makeSlice T x y,type:=type,pos:=pos,after:=after,guard:=guard }).run P w = .ok (.value (.slice (some ⟨w.heap.size,0,none⟩) l c)) (w.alloc (.cells (madeCells z.cells (c * i.size)) E)):=by
  simp only [execOp,hl,hc,Sem.run_bind,Sem.run_pure,hr,Result.andThen_ok]
 rw [this]
 exact hk
theorem made_one (z:Value) (n:Nat):madeCells #[z] n=(List.replicate n z).toArray:=by
 rw [← toList_madeCells_one]

theorem src_take {ok:Blocks} {w:World} {base:Option Addr} {m cap:Nat} {s:List UInt8} (h:BytesV ok w (.slice base m cap) s) (k:Nat) (hk:k≤s.length):Src w 1 (.slice base k cap) k ((s.take k).map byteV):=by
 obtain ⟨_,h1,h2⟩:=h.src
 refine ⟨by simp;omega,flat_bytes _,.inl ⟨base,k,cap,rfl,rfl,?_⟩⟩
 rcases h2 with ⟨b,n,c,h3,h4,h5⟩|⟨b,h3,_⟩
 ·cases h3
  rcases h5 with h5|⟨a,ha,hs⟩
  ·left
   have:s=[]:=by simpa using h5
   rw [this];simp
  ·refine .inr ⟨a,ha,?_⟩
   rw [List.map_take];exact hs.take k
 ·cases h3

theorem wp_copy {T X E:TypeId} (hu:P.underlying T=some (.slice E)) (hi:(P.info? E).map (·.size)=some 1) {ok:Blocks}
  {w:World} {ρ:Regs} {d:Option Nat} {x y:Operand} {type:TypeId} {pos:String} {after:Array Edge} {guard:Option (Nat × Bool)} {K:Regs→World→Prop} {b n m cap c:Nat} {base:Option Addr} {s:List UInt8} {xb:Blk}
  (hd:ev ρ x = .slice (some ⟨b,0,none⟩) n cap) (hs:ev ρ y = .slice base m c) (hB:BytesV ok w (.slice base m c) s) (hb:blk w b=some xb) (hsz:n≤xb.1.size) (hf:thaw xb.2.2 0 n=true)
  (hk:∀ v,K (put ρ d v) (wr w b 0 ((s.take n).map byteV))) :
  rawK P { dst:=d,op:=.call { callee:=.builtin .copy,args:=#[x,y],argTypes:=#[T,X] },type:=type,pos:=pos,after:=after,guard:=guard } ρ w K:=by
 refine ⟨?_⟩
 obtain ⟨i,h1,h2⟩:=Option.map_eq_some_iff.1 hi
 have hm:m=s.length:=by obtain ⟨b',c',e,_⟩:=hB;cases e;simp
 have hsrc:=src_take hB (Nat.min m n) (by rw [hm];exact Nat.min_le_left _ _)
 have hfc:(Builtin.firstCells 1 (Nat.min m n) (.slice base m c)).run P w = .ok ((s.take (Nat.min m n)).map byteV).toArray w:=by
  rw [show Builtin.firstCells 1 (Nat.min m n) (.slice base m c)=Builtin.firstCells 1 (Nat.min m n) (.slice base (Nat.min m n) c) from by cases base<;>rfl]
  exact run_firstCells hsrc
 have hlen:((s.take (Nat.min m n)).map byteV).length≤n:=by simp;omega
 have hst:=run_storeCells (P:=P) ((s.take (Nat.min m n)).map byteV) w 0 0 xb hb (by omega) (by simp only [thaw,Bool.or_eq_true,Nat.ble_eq] at hf;omega) (flat_bytes _)
 have htk:s.take (Nat.min m n)=s.take n:=by
  rw [hm]
  rcases Nat.le_total s.length n with h|h
  ·rw [show Nat.min s.length n=s.length from Nat.min_eq_left h,List.take_length,List.take_of_length_le h]
  ·rw [show Nat.min s.length n=n from Nat.min_eq_right h]
 rw [htk] at hfc hst
 have:(execOp (ev ρ) { dst:=d,op:=.call { callee:=.builtin .copy,args:=#[x,y],argTypes:=#[T,X] },type:=type,pos:=pos,after:=after,guard:=guard }).run P w = .ok (.value (goInt (Nat.min m n))) (wr w b 0 ((s.take n).map byteV)):=by
  simp only [execOp,resolve,Sem.run_bind,Sem.run_pure,Result.andThen_ok,invoke,builtin,List.map_toArray,List.map_cons,List.map_nil,hd,hs]
  simp [Builtin.copy_,run_underlying hu,Builtin.lenOf,Go.sizeOf,typeInfo,h1,h2,hfc,hst,-List.map_take]
 rw [this]
 exact hk _

def strV (s:List UInt8):Value:=.string ⟨s.toArray⟩
theorem wp_string {S T E:TypeId} (hs:P.underlying S=some (.slice E)) (he:P.underlying E=some (.int .u8)) (hd:P.underlying T=some .string) {ok:Blocks} {s:List UInt8}
  {w:World} {ρ:Regs} {d:Option Nat} {x:Operand} {type:TypeId} {pos:String} {after:Array Edge} {guard:Option (Nat × Bool)} {K:Regs→World→Prop}
  (hB:BytesV ok w (ev ρ x) s) (hk:K (put ρ d (strV s)) w) :
  rawK P { dst:=d,op:=.convert S T x,type:=type,pos:=pos,after:=after,guard:=guard } ρ w K:=by
 refine ⟨?_⟩
 have:(execOp (ev ρ) { dst:=d,op:=.convert S T x,type:=type,pos:=pos,after:=after,guard:=guard }).run P w = .ok (.value (strV s)) w:=by
  obtain ⟨base,cap,h1,h2,h3,h4⟩:=hB
  simp only [List.length_map] at h1 h2
  have hr:(convert S T (.slice base s.length cap)).run P w = .ok (strV s) w:=by
   rcases h4 with h4|⟨a,ha,hok,hb,x,hx,h5⟩
   ·have hs0:s=[]:=by simpa using h4
    subst hs0
    cases base with
    | none=>simp [convert,run_underlying hs,run_underlying he,run_underlying hd,Conv.bytesToString,Sem.run_bind,strV];rfl
    | some a=>exact run_convert_bytes_back w S T E a cap [] hs he hd (fun j hj=>by simp at hj)
   ·subst ha
    refine run_convert_bytes_back w S T E a cap s hs he hd fun j hj => ?_
    obtain ⟨ab,ao,asp⟩:=a
    simp only at hok hx
    subst hok
    have:=h5 j (by rw [flatten_bytes];simpa using hj)
    rw [flatten_bytes] at this
    rw [show (⟨ab,ao,none⟩:Addr).add j=⟨ab,ao+j,none⟩ from add_of_addOff rfl,cell?_blk,hx,Option.bind_some,this]
    simp [hj,byteV]
  simp only [execOp,h1,Sem.run_bind,hr,Result.andThen_ok,Sem.run_pure]
 rw [this]
 exact hk
theorem plainV_strV (s:List UInt8):plainV .len #[strV s] = true:=nr rfl
theorem flat_strV (s:List UInt8):flat (strV s)=true:=rfl
theorem lenV_strV {T:TypeId} (s:List UInt8):lenV P T (strV s)=if isStrT P T=true then some (.int .i64 s.length) else none:=by
 simp [strV,lenV,ByteArray.size]
theorem cells_strV (s:List UInt8):vcells (strV s)=#[strV s]:=rfl
end
end Ms

namespace Ms
open Go

/-! ### The plain law of 'part' -/
theorem okF_mono (d:Nat):∀ fs,okF d fs=true→okF (d+1) fs=true:=by
 induction d with
 | zero =>
  intro fs h
  simp only [okF,List.isEmpty_iff] at h
  subst h;rfl
 | succ d ih =>
  intro fs h
  rw [okF] at h ⊢
  simp only [Bool.and_eq_true,List.all_eq_true] at h ⊢
  exact ⟨h.1,fun f hf=>⟨(h.2 f hf).1,ih _ (h.2 f hf).2⟩⟩

def plainF (pt:List Fld→Int→Bool→Tree→List UInt8) (v:Int) (flex:Bool) (t:Tree) (x:Fld × Nat):List UInt8:=if x.1.tag < 0∧hasS x.1 v=true then fieldS pt x.1 v flex (t.at x.2) else []
def plainP (pt:List Fld→Int→Bool→Tree→List UInt8) (fs:List Fld) (v:Int) (flex:Bool) (t:Tree) (j:Nat):List UInt8:=(fs.take j).zipIdx.flatMap (plainF pt v flex t)
theorem plainP_all (pt:List Fld→Int→Bool→Tree→List UInt8) (fs:List Fld) (v:Int) (flex:Bool) (t:Tree):plainP pt fs v flex t fs.length=plainS pt fs v flex t:=by
 rw [plainP,List.take_length];rfl
theorem zipIdx_snoc {α:Type} (l:List α) (j:Nat) (h:j < l.length):(l.take (j+1)).zipIdx=(l.take j).zipIdx++[(l[j],j)]:=by
 rw [List.take_succ_eq_append_getElem h,List.zipIdx_append]
 have:(l.take j).length=j:=by simp;omega
 simp [this]
theorem plainP_snoc (pt:List Fld→Int→Bool→Tree→List UInt8) (fs:List Fld) (v:Int) (flex:Bool) (t:Tree) (j:Nat) (h:j < fs.length):plainP pt fs v flex t (j+1)=plainP pt fs v flex t j++plainF pt v flex t (fs[j],j):=by
 simp only [plainP,zipIdx_snoc fs j h,List.flatMap_append,List.flatMap_cons,List.flatMap_nil,List.append_nil]
theorem plainP_le (pt:List Fld→Int→Bool→Tree→List UInt8) (fs:List Fld) (v:Int) (flex:Bool) (t:Tree) (j:Nat):(plainP pt fs v flex t j).length≤(plainS pt fs v flex t).length:=by
 have:(plainS pt fs v flex t)=(plainP pt fs v flex t j)++((fs.drop j).zipIdx (0+(fs.take j).length)).flatMap (plainF pt v flex t):=by
  rw [plainP,← List.flatMap_append,← List.zipIdx_append,List.take_append_drop];rfl
 rw [this,List.length_append];omega

def tagF (pt:List Fld→Int→Bool→Tree→List UInt8) (d:Nat) (v:Int) (flex:Bool) (t:Tree) (k:Nat) (x:Fld × Nat):Option TagD:=if x.1.tag=k∧usualS d x.1 (t.at x.2)=false then some (k,fieldS pt x.1 v flex (t.at x.2)) else none
def tagsP (pt:List Fld→Int→Bool→Tree→List UInt8) (d:Nat) (fs:List Fld) (v:Int) (flex:Bool) (t:Tree) (k j:Nat):List TagD :=
 ((List.range k).flatMap fun k=>fs.zipIdx.filterMap (tagF pt d v flex t k))++(fs.take j).zipIdx.filterMap (tagF pt d v flex t k)
theorem tagsP_all (pt:List Fld→Int→Bool→Tree→List UInt8) (d:Nat) (fs:List Fld) (v:Int) (flex:Bool) (t:Tree):tagsP pt d fs v flex t (knownS fs) 0=tagsS pt d fs v flex t:=by
 simp only [tagsP,List.take_zero,List.zipIdx_nil,List.filterMap_nil,List.append_nil];rfl
theorem tagsP_next (pt:List Fld→Int→Bool→Tree→List UInt8) (d:Nat) (fs:List Fld) (v:Int) (flex:Bool) (t:Tree) (k:Nat):tagsP pt d fs v flex t k fs.length=tagsP pt d fs v flex t (k+1) 0:=by
 simp only [tagsP,List.take_length,List.take_zero,List.zipIdx_nil,List.filterMap_nil,List.append_nil,List.range_succ,List.flatMap_append,List.flatMap_cons,List.flatMap_nil]
theorem tagsP_snoc (pt:List Fld→Int→Bool→Tree→List UInt8) (d:Nat) (fs:List Fld) (v:Int) (flex:Bool) (t:Tree) (k j:Nat) (h:j < fs.length) :
  tagsP pt d fs v flex t k (j+1)=tagsP pt d fs v flex t k j++(tagF pt d v flex t k (fs[j],j)).toList:=by
 simp only [tagsP,zipIdx_snoc fs j h,List.filterMap_append,List.append_assoc]
 congr 2
theorem tagsP_pre (pt:List Fld→Int→Bool→Tree→List UInt8) (d:Nat) (fs:List Fld) (v:Int) (flex:Bool) (t:Tree) (k j:Nat) (hk:k < knownS fs):∃ r,tagsS pt d fs v flex t=tagsP pt d fs v flex t k j++r:=by
 have h1:∃ r,fs.zipIdx.filterMap (tagF pt d v flex t k)=(fs.take j).zipIdx.filterMap (tagF pt d v flex t k)++r :=
  ⟨((fs.drop j).zipIdx (0+(fs.take j).length)).filterMap (tagF pt d v flex t k),by rw [← List.filterMap_append,← List.zipIdx_append,List.take_append_drop]⟩
 obtain ⟨r,h1⟩:=h1
 have h2:∀ n,∃ r,(List.range (k+1+n)).flatMap (fun k=>fs.zipIdx.filterMap (tagF pt d v flex t k))=tagsP pt d fs v flex t k j++r:=by
  intro n
  induction n with
  | zero =>
   refine ⟨r,?_⟩
   simp only [Nat.add_zero,List.range_succ,List.flatMap_append,List.flatMap_cons,List.flatMap_nil,List.append_nil,tagsP,h1,List.append_assoc]
  | succ n ih =>
   obtain ⟨r,ih⟩:=ih
   rw [← Nat.add_assoc,List.range_succ,List.flatMap_append,ih,List.append_assoc]
   exact ⟨_,rfl⟩
 obtain ⟨r2,h2⟩:=h2 (knownS fs - (k+1))
 rw [show k+1+(knownS fs - (k+1))=knownS fs by omega] at h2
 exact ⟨r2,h2⟩

def unkT (u:TagD):List UInt8:=oneTag (u.1,wholeS u.2)
def partT (pt:List Fld→Int→Bool→Tree→List UInt8) (du:Nat) (fs:List Fld) (v:Int) (flex:Bool) (t:Tree):List UInt8 :=
 if flex=true then
  plainS pt fs v flex t ++
   (uvarS ((tagsS pt du fs v flex t).length+(unknownS fs t.u).length) ++
    ((tagsS pt du fs v flex t).flatMap oneTag++(unknownS fs t.u).flatMap unkT))
 else plainS pt fs v flex t
theorem oneTag_many (l:List TagD):l.length≤(l.flatMap oneTag).length:=by
 induction l with
 | nil=>simp
 | cons u l ih=>simp only [List.flatMap_cons,List.length_append,List.length_cons,oneTag];have:=uvarS_pos u.1;omega
theorem FldC.weaken {ok ok':Blocks} {w:World} (k:∀ b,b < w.heap.size→ok b→ok' b) {t:Fld} {cs:List Value} (h:FldC ok w t cs):FldC ok' w t cs:=by
 induction h with
 | mk hs hl he ih=>exact .mk (hs.weaken k) hl (fun i h1 h2=>ih i h1 h2)
theorem FldsV.weaken {ok ok':Blocks} {w:World} {v:Value} {l:List Fld} (h:FldsV ok w v l) (k:∀ b,b < w.heap.size→ok b→ok' b):FldsV ok' w v l:=by
 obtain ⟨css,h1,h2⟩:=h;exact ⟨css,h1.weaken k,h2.imp fun _ _ h=>h.weaken k⟩
theorem partS_eq (d:Nat) (fs:List Fld) (v:Int) (flex:Bool) (t:Tree):partS (d+1) fs v flex t=partT (partS d) (d+1) fs v flex t:=rfl
end Ms

