/- The reference's functions as plain Lean functions: no program, no memory. -/
import Derived.Test.YtohokpilmncmkaaMsDraw
set_option linter.unusedSimpArgs false
set_option linter.unusedVariables false
namespace Ms
open Go

/-- The number n in k octets, the highest one first. -/
def fixedS (n : Int) : Nat → List UInt8
  | 0 => []
  | k + 1 => b8 (n.fdiv (2 ^ (8 * k))) :: fixedS n k
theorem fixedS_len (n : Int) (k : Nat) : (fixedS n k).length = k := by induction k <;> simp [fixedS, *]

def wholeS (s : List UInt8) : List UInt8 := s.take 32767
def thingsS (l : List Tree) : List Tree := l.take 32767
def Tree.at (t : Tree) (i : Nat) : Tree := t.l.getD i .zero
def hasS (f : Fld) (v : Int) : Bool := decide (f.fr ≤ v) && (decide (f.to < 0) || decide (v ≤ f.to))
def nullS (f : Fld) (v : Int) (t : Tree) : Bool := t.null && decide (f.null ≥ 0) && decide (v ≥ f.null)
def widthS (k : Int) : Nat := if k = 1 then 1 else if k = 2 then 2 else if k = 5 then 2 else if k = 3 then 4 else 8
theorem widthS_le (k : Int) : widthS k ≤ 8 := by
  unfold widthS
  split
  · omega
  · split
    · omega
    · split
      · omega
      · split <;> omega

/-- A number in groups of seven bits, the lowest one first. -/
def uvarS (n : Nat) : List UInt8 :=
  if h : 127 < n then b8 ((n % 128 : Nat) + 128 : Int) :: uvarS (n / 128) else [b8 n]
termination_by n
decreasing_by omega
theorem uvarS_big {n : Nat} (h : 127 < n) : uvarS n = b8 ((n % 128 : Nat) + 128 : Int) :: uvarS (n / 128) := by rw [uvarS]; simp [h]
theorem uvarS_small {n : Nat} (h : n ≤ 127) : uvarS n = [b8 n] := by rw [uvarS]; simp; omega
theorem uvarS_len (k : Nat) : ∀ n, n < 2 ^ (7 * (k + 1)) → (uvarS n).length ≤ k + 1 := by
  induction k with
  | zero => intro n hn; rw [uvarS_small (by simpa using Nat.le_of_lt_succ hn)]; simp
  | succ k ih =>
    intro n hn
    rcases Nat.lt_or_ge 127 n with h | h
    · rw [uvarS_big h, List.length_cons]
      have : n / 128 < 2 ^ (7 * (k + 1)) := by
        rw [Nat.div_lt_iff_lt_mul (by omega)]
        have e : 2 ^ (7 * (k + 1 + 1)) = 2 ^ (7 * (k + 1)) * 128 := by
          rw [show 7 * (k + 1 + 1) = 7 * (k + 1) + 7 by omega, Nat.pow_add]
        omega
      have := ih _ this; omega
    · rw [uvarS_small h]; simp
theorem uvarS_pos (n : Nat) : 1 ≤ (uvarS n).length := by
  rcases Nat.lt_or_ge 127 n with h | h
  · rw [uvarS_big h]; simp
  · rw [uvarS_small h]; simp

def countedS (flex null : Bool) (n size : Nat) : List UInt8 :=
  if flex = true ∧ null = true then [0] else if flex = true then uvarS (n + 1) else if null = true then fixedS (-1) size else fixedS n size

def knownS (fs : List Fld) : Nat := fs.foldl (fun n f => if 0 ≤ f.tag then max n (f.tag.toNat + 1) else n) 0

def insTag (least : Nat) (out : List TagD) (t : TagD) : List TagD :=
  if t.1 < least ∨ ((out.dropWhile fun x => decide (x.1 < t.1)).head?.map (·.1)) = some t.1 then out
  else (out.takeWhile fun x => decide (x.1 < t.1)) ++ t :: (out.dropWhile fun x => decide (x.1 < t.1))
def unknownS (fs : List Fld) (l : List TagD) : List TagD := (l.take 32767).foldl (insTag (knownS fs)) []

def usualS : Nat → Fld → Tree → Bool
  | 0, _, _ => false
  | d + 1, f, t =>
    if f.kind = 0 then decide (t.n % 2 = f.df)
    else if f.kind = 7 then (t.s.take 16).all (· == 0)
    else if f.kind = 8 ∨ f.kind = 9 then (if 0 ≤ f.null then t.null else decide (t.s.length = 0))
    else if f.kind = 11 then decide (t.l.length = 0)
    else if f.kind = 10 then (f.sub.zipIdx.all fun (g, i) => usualS d g (t.at i)) && decide ((unknownS f.sub t.u).length = 0)
    else decide (fixedS t.n (widthS f.kind) = fixedS f.df (widthS f.kind))

/-- What is written of a value of a kind; 'pt' writes a part. -/
def valueS (pt : List Fld → Int → Bool → Tree → List UInt8) (kind : Int) (sub : List Fld) (null : Bool) (v : Int) (flex : Bool) (t : Tree) : List UInt8 :=
  if kind = 0 then [b8 (t.n % 2)]
  else if kind = 7 then (t.s.take 16) ++ List.replicate (16 - t.s.length) 0
  else if kind = 8 then countedS flex null (if null = true then [] else wholeS t.s).length 2 ++ (if null = true then [] else wholeS t.s)
  else if kind = 9 then countedS flex null (if null = true then [] else wholeS t.s).length 4 ++ (if null = true then [] else wholeS t.s)
  else if kind = 10 then pt sub v flex t
  else fixedS t.n (widthS kind)

def fieldS (pt : List Fld → Int → Bool → Tree → List UInt8) (f : Fld) (v : Int) (flex : Bool) (t : Tree) : List UInt8 :=
  if f.kind = 11 then
    countedS flex (nullS f v t) (if nullS f v t = true then [] else thingsS t.l).length 4 ++ (if nullS f v t = true then [] else thingsS t.l).flatMap fun x => valueS pt f.of f.sub false v flex x
  else if f.kind = 10 ∧ 0 ≤ f.null then (if nullS f v t = true then fixedS (-1) 1 else fixedS 1 1 ++ pt f.sub v flex t)
  else valueS pt f.kind f.sub (nullS f v t) v flex t

/-- What stands ahead of the tags: the fields in order that have none. -/
def plainS (pt : List Fld → Int → Bool → Tree → List UInt8) (fs : List Fld) (v : Int) (flex : Bool) (t : Tree) : List UInt8 :=
  fs.zipIdx.flatMap fun (f, i) => if f.tag < 0 ∧ hasS f v = true then fieldS pt f v flex (t.at i) else []
/-- The known tags that are written, by rising numbers: number and octets. -/
def tagsS (pt : List Fld → Int → Bool → Tree → List UInt8) (d : Nat) (fs : List Fld) (v : Int) (flex : Bool) (t : Tree) : List TagD :=
  (List.range (knownS fs)).flatMap fun tag => fs.zipIdx.filterMap fun (f, i) => if f.tag = tag ∧ usualS d f (t.at i) = false then some (tag, fieldS pt f v flex (t.at i)) else none
def oneTag (u : TagD) : List UInt8 := uvarS u.1 ++ uvarS u.2.length ++ u.2
def partS : Nat → List Fld → Int → Bool → Tree → List UInt8
  | 0, _, _, _, _ => []
  | d + 1, fs, v, flex, t =>
    if flex = true then
      plainS (partS d) fs v flex t ++
        (uvarS ((tagsS (partS d) (d + 1) fs v flex t).length + (unknownS fs t.u).length) ++
          ((tagsS (partS d) (d + 1) fs v flex t).flatMap oneTag ++ (unknownS fs t.u).flatMap fun u => oneTag (u.1, wholeS u.2)))
    else plainS (partS d) fs v flex t

/-- A field's numbers are as a reference has them, d levels down. -/
def okF : Nat → List Fld → Bool
  | 0, fs => fs.isEmpty
  | d + 1, fs => Nat.ble fs.length 1000 && fs.all fun f => decide (0 ≤ f.kind ∧ f.kind ≤ 11 ∧ -1 ≤ f.tag ∧ f.tag ≤ 1000 ∧ -9223372036854775808 ≤ f.df ∧ f.df ≤ 9223372036854775807 ∧ 0 ≤ f.of ∧ f.of ≤ 10) && okF d f.sub

end Ms
