import PyProof.Rows.All
import Wide.All
import OpenK.AllK
import Wide.FinOn
import Lean
import PySem.Challenge.RW_dm0152_06
set_option Elab.async false
set_option maxRecDepth 100000
set_option maxHeartbeats 8000000
namespace Mine
open PySem

abbrev D := PyData

theorem no {α : Type} {a : α} {P : Prop} (h : (none : Option α) = some a) : P := nomatch h
theorem noB {P : Prop} (h : false = true) : P := nomatch h
theorem bnd {α β : Type} {x : Option α} {f : α → Option β} {b : β} (h : x.bind f = some b) : ∃ a, x = some a ∧ f a = some b := Option.bind_eq_some_iff.mp h
theorem mpd {α β : Type} {x : Option α} {f : α → β} {b : β} (h : x.map f = some b) : ∃ a, x = some a ∧ f a = b := Option.map_eq_some_iff.mp h
theorem itd {α : Type} {c : Prop} [Decidable c] {a b : α} (h : (if c then some a else none) = some b) : c ∧ a = b := by
  by_cases hc : c
  · rw [if_pos hc] at h; exact ⟨hc, Option.some.inj h⟩
  · rw [if_neg hc] at h; exact no h
theorem itb {α : Type} {c : Prop} [Decidable c] {x : Option α} {b : α} (h : (if c then x else none) = some b) : c ∧ x = some b := by
  by_cases hc : c
  · rw [if_pos hc] at h; exact ⟨hc, h⟩
  · rw [if_neg hc] at h; exact no h
theorem iteB {α : Type} {b : Bool} {x y z : α} (h : (if b = true then x else y) = z) : (b = true ∧ x = z) ∨ (b = false ∧ y = z) := by cases b <;> simp_all
theorem an {a b : Bool} (h : (a && b) = true) : a = true ∧ b = true := by simpa using h

/-- the mini language: operators -/
inductive BOp where
  | add | sub | mul | div | mod | pow
inductive COp where
  | eq | ne | lt | le | gt | ge | isin | notin
inductive M0 where
  | lower | upper | swapcase
inductive M1 where
  | split | join | startswith | endswith | find | rfind | index

/-- the mini language: expressions (anil, acons: argument lists; range: as a loop's source alone) -/
inductive X where
  | cnone | cbool (b : Bool) | cint (i : Int) | cstr (s : Str)
  | var (i : Nat)
  | bin (op : BOp) (a b : X)
  | neg (a : X) | not (a : X)
  | and (a b : X) | or (a b : X)
  | cmp (op : COp) (a b : X)
  | cmp2 (op₁ op₂ : COp) (a b c : X)
  | isTru (a : X)
  | ite (t a b : X)
  | idx (a i : X)
  | slice (a lo hi : X)
  | rev (a : X)
  | anil | acons (a r : X)
  | list (as : X) | tup (as : X)
  | call (f : Nat) (as : X)
  | len (a : X) | isBool (a : X)
  | meth0 (m : M0) (a : X) | meth1 (m : M1) (a b : X)
  | range (lo hi : X)
  | comp (elt iter cond : X)
  | comp2 (elt iter₁ iter₂ : X)
  | sorted (iter key : X)

noncomputable def mkS (l : List Nat) : Str := ⟨l.toArray⟩
noncomputable def Str.l (s : Str) : List Nat := s.cps.toList

/-- data without dicts, at most n levels deep -/
noncomputable def okN : Nat → D → Bool
  | _, .none => true
  | _, .bool _ => true
  | _, .int _ => true
  | _, .str _ => true
  | n + 1, .list l => l.all (okN n)
  | n + 1, .tuple l => l.all (okN n)
  | _, _ => false

noncomputable def truth : D → Option Bool
  | .none => some false
  | .bool b => some b
  | .int i => some (i != 0)
  | .str s => some (s.length != 0)
  | .list l => some (!l.isEmpty)
  | .tuple l => some (!l.isEmpty)
  | .dict _ => none

/-- a list repeated -/
noncomputable def rep {α : Type} : Nat → List α → List α
  | 0, _ => []
  | n + 1, l => l ++ rep n l

noncomputable def int? : D → Option Int
  | .int i => some i
  | _ => none
noncomputable def str? : D → Option Str
  | .str i => some i
  | _ => none
noncomputable def list? : D → Option (List D)
  | .list i => some i
  | _ => none
theorem int?_is {x : D} {i : Int} (h : int? x = some i) : x = .int i := by cases x <;> first | exact congrArg _ (Option.some.inj h) | exact no h
theorem str?_is {x : D} {i : Str} (h : str? x = some i) : x = .str i := by cases x <;> first | exact congrArg _ (Option.some.inj h) | exact no h
theorem list?_is {x : D} {i : List D} (h : list? x = some i) : x = .list i := by cases x <;> first | exact congrArg _ (Option.some.inj h) | exact no h
noncomputable def binop : BOp → D → D → Option D
  | .add, x, y => (match x with
    | .int a => (int? y).bind fun b => some (.int (a + b))
    | .str a => (str? y).bind fun b => if a.length + b.length ≤ 16777216 then some (.str (a ++ b)) else none
    | .list a => (list? y).bind fun b => if a.length + b.length ≤ 16777216 then some (.list (a ++ b)) else none
    | _ => none)
  | .sub, x, y => (int? x).bind fun a => (int? y).bind fun b => some (.int (a - b))
  | .mul, x, y => (int? y).bind fun n => (match x with
    | .int a => if a.natAbs < 2 ^ 64 ∨ n.natAbs < 2 ^ 64 then some (.int (a * n)) else none
    | .str a => if 0 ≤ n ∧ n ≤ 1 then some (.str (if n = 0 then mkS [] else a)) else none
    | .list a => if 0 ≤ n ∧ n ≤ 1000 ∧ a.length ≤ 1000 then some (.list (rep n.toNat a)) else none
    | _ => none)
  | .div, x, y => (int? x).bind fun a => (int? y).bind fun b => if b ≠ 0 ∧ b.natAbs < 1073741824 then some (.int (a.fdiv b)) else none
  | .mod, x, y => (int? x).bind fun a => (int? y).bind fun b => if b ≠ 0 then some (.int (a.fmod b)) else none
  | .pow, x, y => (int? x).bind fun a => (int? y).bind fun b => if a = 2 ∧ 0 ≤ b ∧ b ≤ 1000 then some (.int (2 ^ b.toNat)) else none

noncomputable def contains (c x : D) : Option Bool :=
  match c, x with
  | .str c, .str x => some (Txt.contains c x)
  | .list l, x => if okN 6 (.list l) && okN 6 x then some (l.any fun y => PyData.eqv y x) else none
  | .tuple l, x => if okN 6 (.tuple l) && okN 6 x then some (l.any fun y => PyData.eqv y x) else none
  | _, _ => none

noncomputable def kin : D → D → Bool
  | .bool _, .bool _ => true
  | .int _, .int _ => true
  | .str _, .str _ => true
  | .list _, .list _ => true
  | .tuple _, .tuple _ => true
  | _, _ => false
noncomputable def cmpop : COp → D → D → Option Bool
  | .eq, a, b => if kin a b && okN 6 a && okN 6 b then some (PyData.eqv a b) else none
  | .ne, a, b => if kin a b && okN 6 a && okN 6 b then some (!PyData.eqv a b) else none
  | .lt, x, y => (match x with
    | .int a => (int? y).bind fun b => some (decide (a < b))
    | .str a => (str? y).bind fun b => some (decide (a.cps.toList < b.cps.toList))
    | _ => none)
  | .le, x, y => (match x with
    | .int a => (int? y).bind fun b => some (decide (a ≤ b))
    | .str a => (str? y).bind fun b => some (!decide (b.cps.toList < a.cps.toList))
    | _ => none)
  | .gt, x, y => (int? x).bind fun a => (int? y).bind fun b => some (decide (a > b))
  | .ge, x, y => (int? x).bind fun a => (int? y).bind fun b => some (decide (a ≥ b))
  | .isin, x, c => contains c x
  | .notin, x, c => (contains c x).map (!·)

noncomputable def at? {α : Type} (l : List α) (i : Int) : Option α := if 0 ≤ i then l[i.toNat]? else if 0 ≤ i + l.length then l[(i + l.length).toNat]? else none

noncomputable def index : D → D → Option D
  | .str s, .int i => if i.natAbs < 2 ^ 62 then (at? s.cps.toList i).map fun c => .str (mkS [c]) else none
  | .list l, .int i => if i.natAbs < 2 ^ 62 then at? l i else none
  | .tuple l, .int i => if i.natAbs < 2 ^ 62 then at? l i else none
  | _, _ => none

/-- where a bound of a slice falls -/
noncomputable def clip (n : Nat) (i : Int) : Nat := (max 0 (min (if i < 0 then i + n else i) n)).toNat
noncomputable def part? : D → Option (Option Int)
  | .none => some none
  | .int i => some (some i)
  | _ => none
noncomputable def cut {α : Type} (l : List α) (lo hi : Option Int) : List α :=
  (l.drop (lo.elim 0 (clip l.length))).take (hi.elim l.length (clip l.length) - lo.elim 0 (clip l.length))
noncomputable def slice (a lo hi : D) : Option D :=
  match part? lo, part? hi, a with
  | some lo, some hi, .str s => some (.str (mkS (cut s.cps.toList lo hi)))
  | some lo, some hi, .list l => some (.list (cut l lo hi))
  | _, _, _ => none
noncomputable def revd : D → Option D
  | .str s => some (.str (mkS s.cps.toList.reverse))
  | .list l => some (.list l.reverse)
  | _ => none

noncomputable def length : D → Option D
  | .str s => some (.int s.length)
  | .list l => some (.int l.length)
  | .tuple l => some (.int l.length)
  | _ => none
noncomputable def isB : D → Option D
  | .bool _ => some (.bool true)
  | _ => none

noncomputable def method0 (m : M0) (x : D) : Option D :=
  (str? x).bind fun s => if s.length ≤ 5592405 then some (.str (match m with | .lower => Txt.lower s | .upper => Txt.upper s | .swapcase => Txt.swapcase s)) else none

noncomputable def strs? : List D → Option (List Str)
  | [] => some []
  | .str s :: r => (strs? r).map (s :: ·)
  | _ => none
/-- the place of the first that is equal -/
noncomputable def place? (x : Str) : List Str → Nat → Option Nat
  | [], _ => none
  | y :: r, k => if y = x then some k else place? x r (k + 1)

noncomputable def method1 : M1 → D → D → Option D
  | .startswith, x, y => (str? x).bind fun s => (str? y).bind fun t => some (.bool (Txt.startswith s t))
  | .endswith, x, y => (str? x).bind fun s => (str? y).bind fun t => some (.bool (Txt.endswith s t))
  | .find, x, y => (str? x).bind fun s => (str? y).bind fun t => some (.int (Txt.find s t))
  | .rfind, x, y => (str? x).bind fun s => (str? y).bind fun t => some (.int (Txt.rfind s t))
  | .split, x, y => (str? x).bind fun s => (str? y).bind fun t => if t.length ≠ 0 ∧ s.length ≤ 1048576 then some (.list ((Txt.split s t).map .str)) else none
  | .join, x, y => (str? x).bind fun s => (list? y).bind fun l => (strs? l).bind fun ts => if (ts.map (·.length)).sum + ts.length * s.length ≤ 16777216 then some (.str (Str.join s ts)) else none
  | .index, x, y => (list? x).bind fun l => (str? y).bind fun x => (strs? l).bind fun ts => (place? x ts 0).map fun k => .int (k : Nat)

noncomputable def items : D → Option (List D)
  | .list l => some l
  | .tuple l => some l
  | .str s => some (s.cps.toList.map fun c => .str (mkS [c]))
  | _ => none
noncomputable def rangeL (lo hi : Int) : List D := (List.range (hi - lo).toNat).map fun (k : Nat) => .int (lo + k)
noncomputable def range? (lo hi : D) : Option (List D) :=
  match lo, hi with
  | .int a, .int b => if a.natAbs < 2 ^ 40 ∧ b.natAbs < 2 ^ 40 ∧ (b - a).toNat ≤ 16777216 then some (rangeL a b) else none
  | _, _ => none

noncomputable def compM (cond : D → Option D) (elt : D → Option D) : List D → Option (List D)
  | [] => some []
  | d :: r => ((cond d).bind truth).bind fun
    | true => (elt d).bind fun v => (compM cond elt r).bind fun vs => some (v :: vs)
    | false => compM cond elt r
/-- two generators: the inner source is asked at each outer item -/
noncomputable def compM2 (iter₂ : D → Option (List D)) (elt : D → D → Option D) : List D → Option (List D)
  | [] => some []
  | d :: r => (iter₂ d).bind fun ys => (compM (fun _ => some (.bool true)) (elt d) ys).bind fun vs => (compM2 iter₂ elt r).bind fun ws => some (vs ++ ws)

/-- keys: all ints or all texts -/
noncomputable def keyLe : D → D → Bool
  | .int a, .int b => decide (a ≤ b)
  | .str a, .str b => !decide (b.cps.toList < a.cps.toList)
  | _, _ => false
noncomputable def allInts : List D → Bool := fun l => l.all fun | .int _ => true | _ => false
noncomputable def allStrs : List D → Bool := fun l => l.all fun | .str _ => true | _ => false
noncomputable def keyed (key : D → Option D) : List D → Option (List (D × D))
  | [] => some []
  | d :: r => (key d).bind fun k => (keyed key r).bind fun ks => some ((k, d) :: ks)
noncomputable def insertBy (x : D × D) : List (D × D) → List (D × D)
  | [] => [x]
  | y :: r => if keyLe x.1 y.1 then x :: y :: r else y :: insertBy x r
/-- sorted by keys, stable -/
noncomputable def sortBy : List (D × D) → List (D × D)
  | [] => []
  | x :: r => insertBy x (sortBy r)

noncomputable def tup? : D → Option (List D)
  | .tuple l => some l
  | _ => none

section
variable (Φ : List (List D → Option D))
/-- what an expression of the mini language gives (anil, acons: the tuple of the arguments; range: the list of its ints) -/
noncomputable def ev : X → List (Option D) → Option D
  | .cnone, _ => some .none
  | .cbool b, _ => some (.bool b)
  | .cint i, _ => some (.int i)
  | .cstr s, _ => some (.str s)
  | .var i, σ => (σ[i]?).bind id
  | .bin op a b, σ => (ev a σ).bind fun x => (ev b σ).bind fun y => binop op x y
  | .neg a, σ => (ev a σ).bind fun | .int i => some (.int (-i)) | _ => none
  | .not a, σ => (ev a σ).bind fun x => (truth x).map fun b => .bool (!b)
  | .and a b, σ => (ev a σ).bind fun x => (truth x).bind fun t => if t then ev b σ else some x
  | .or a b, σ => (ev a σ).bind fun x => (truth x).bind fun t => if t then some x else ev b σ
  | .cmp op a b, σ => (ev a σ).bind fun x => (ev b σ).bind fun y => (cmpop op x y).map .bool
  | .cmp2 op₁ op₂ a b c, σ => (ev a σ).bind fun x => (ev b σ).bind fun y => (cmpop op₁ x y).bind fun t => if t then (ev c σ).bind fun z => (cmpop op₂ y z).map .bool else some (.bool false)
  | .isTru a, σ => (ev a σ).bind fun | .bool b => some (.bool b) | _ => none
  | .ite t a b, σ => (ev t σ).bind fun x => (truth x).bind fun t => if t then ev a σ else ev b σ
  | .idx a i, σ => (ev a σ).bind fun x => (ev i σ).bind fun y => index x y
  | .slice a lo hi, σ => (ev a σ).bind fun x => (ev lo σ).bind fun y => (ev hi σ).bind fun z => slice x y z
  | .rev a, σ => (ev a σ).bind revd
  | .anil, _ => some (.tuple [])
  | .acons a r, σ => (ev a σ).bind fun d => ((ev r σ).bind tup?).bind fun ds => some (.tuple (d :: ds))
  | .list as, σ => ((ev as σ).bind tup?).map .list
  | .tup as, σ => ((ev as σ).bind tup?).map .tuple
  | .call f as, σ => ((ev as σ).bind tup?).bind fun ds => (Φ[f]?).bind fun g => g ds
  | .len a, σ => (ev a σ).bind length
  | .isBool a, σ => (ev a σ).bind isB
  | .meth0 m a, σ => (ev a σ).bind (method0 m)
  | .meth1 m a b, σ => (ev a σ).bind fun x => (ev b σ).bind fun y => method1 m x y
  | .range lo hi, σ => (ev lo σ).bind fun x => (ev hi σ).bind fun y => (range? x y).map .list
  | .comp elt iter cond, σ => ((ev iter σ).bind items).bind fun ds =>
      (compM (fun d => ev cond (σ ++ [some d])) (fun d => ev elt (σ ++ [some d])) ds).map .list
  | .comp2 elt it₁ it₂, σ => ((ev it₁ σ).bind items).bind fun ds =>
      if ds.length ≤ 1000 then (compM2 (fun d => ((ev it₂ (σ ++ [some d])).bind items).bind fun ys => if ys.length ≤ 1000 then some ys else none) (fun d e => ev elt (σ ++ [some d, some e])) ds).map .list else none
  | .sorted it key, σ => ((ev it σ).bind items).bind fun ds => (keyed (fun d => ev key (σ ++ [some d])) ds).bind fun ks =>
      if ks.length ≤ 60 && (allInts (ks.map (·.1)) || allStrs (ks.map (·.1))) then some (.list ((sortBy ks).map (·.2))) else none
end

/-- statements: what a name holds -/
inductive Slot where
  | unset
  | frz (d : D)
  | own (l : List D)
noncomputable def Slot.all : Slot → Option D
  | .unset => none
  | .frz d => some d
  | .own l => some (.list l)
noncomputable def Slot.fz : Slot → Option D
  | .frz d => some d
  | _ => none
noncomputable def Slot.freeze : Slot → Slot
  | .own l => .frz (.list l)
  | s => s
noncomputable def freezeAt (σ : List Slot) : List Nat → List Slot
  | [] => σ
  | i :: r => freezeAt (σ.set i ((σ[i]?.getD .unset).freeze)) r
noncomputable def scalar : D → Bool
  | .none | .bool _ | .int _ | .str _ => true
  | _ => false

inductive S where
  | skip
  | seq (a b : S)
  | assign (i : Nat) (fz : List Nat) (own : Bool) (x : X)
  | unpack (i j : Nat) (x : X)
  | aug (i : Nat) (op : BOp) (x : X)
  | iadd (i : Nat) (x : X)
  | augIdx (i : Nat) (k : X) (op : BOp) (x : X)
  | append (i : Nat) (x : X)
  | insert (i : Nat) (k x : X)
  | extend (i : Nat) (x : X)
  | ite (t : X) (a b : S)
  | ifSearch (x : X) (a b : S)
  | for1 (i : Nat) (fz : List Nat) (it : X) (b : S)
  | for2 (i j : Nat) (fz : List Nat) (it : X) (b : S)
  | whil (t : X) (b : S)
  | ret (x : X)
  | brk | cont

inductive Fl where
  | nxt | brk | cnt | ret (d : D)

noncomputable def forL (f : D → List Slot → Option (List Slot × Fl)) : List D → List Slot → Option (List Slot × Fl)
  | [], σ => some (σ, .nxt)
  | d :: r, σ => (f d σ).bind fun
    | (σ', .nxt) => forL f r σ'
    | (σ', .cnt) => forL f r σ'
    | (σ', .brk) => some (σ', .nxt)
    | (σ', .ret v) => some (σ', .ret v)
noncomputable def whileL (t : List Slot → Option Bool) (f : List Slot → Option (List Slot × Fl)) : Nat → List Slot → Option (List Slot × Fl)
  | 0, _ => none
  | n + 1, σ => (t σ).bind fun
    | false => some (σ, .nxt)
    | true => (f σ).bind fun
      | (σ', .nxt) => whileL t f n σ'
      | (σ', .cnt) => whileL t f n σ'
      | (σ', .brk) => some (σ', .nxt)
      | (σ', .ret v) => some (σ', .ret v)

section
variable (Φ : List (List D → Option D)) (ipv4 : Str → Bool) (W : Nat)
/-- all the names' values; those that no statement changes in place -/
noncomputable def alls (σ : List Slot) : List (Option D) := σ.map Slot.all
noncomputable def fzs (σ : List Slot) : List (Option D) := σ.map Slot.fz
/-- a value that is to be kept -/
noncomputable def evB (σ : List Slot) : List Nat → X → Option (D × List Slot)
  | [], x => (ev Φ x (fzs σ)).map fun d => (d, σ)
  | fz, x => (ev Φ x (alls σ)).bind fun d => if scalar d then some (d, σ) else (ev Φ x (fzs (freezeAt σ fz))).map fun d => (d, freezeAt σ fz)
/-- what a loop goes over -/
noncomputable def evI (σ : List Slot) : List Nat → X → Option (D × List Slot)
  | [], x => (ev Φ x (fzs σ)).map fun d => (d, σ)
  | fz, x => (ev Φ x (fzs (freezeAt σ fz))).map fun d => (d, freezeAt σ fz)
noncomputable def augv : BOp → D → D → Option D
  | .add, x, y => (match x with
    | .int a => (int? y).bind fun b => some (.int (a + b))
    | .str a => (str? y).bind fun b => if a.length + b.length ≤ 16777216 then some (.str (a ++ b)) else none
    | _ => none)
  | .sub, x, y => (int? x).bind fun a => (int? y).bind fun b => some (.int (a - b))
  | .mul, x, y => (int? x).bind fun a => (int? y).bind fun b => if a.natAbs < 2 ^ 64 ∨ b.natAbs < 2 ^ 64 then some (.int (a * b)) else none
  | _, _, _ => none
noncomputable def mkSlot (o : Bool) (d : D) : Slot :=
  match o, d with
  | true, .list l => .own l
  | _, d => .frz d
noncomputable def ownAt (σ : List Slot) (i : Nat) : Option (List D) :=
  match σ[i]? with
  | some (.own l) => some l
  | _ => none
noncomputable def two? : D → Option (D × D)
  | .tuple [a, b] => some (a, b)
  | _ => none
/-- a value put at a place of a list -/
noncomputable def putAt (l : List D) (i : Int) (d : D) : List D := if 0 ≤ i then l.set i.toNat d else l.set (i + l.length).toNat d
noncomputable def insAt (l : List D) (i : Int) (d : D) : List D := l.take (clip l.length i) ++ d :: l.drop (clip l.length i)

noncomputable def run : S → List Slot → Option (List Slot × Fl)
  | .skip, σ => some (σ, .nxt)
  | .seq a b, σ => (run a σ).bind fun
    | (σ', .nxt) => run b σ'
    | r => some r
  | .assign i fz o x, σ => (evB Φ σ fz x).map fun r => (r.2.set i (mkSlot o r.1), .nxt)
  | .unpack i j x, σ => ((ev Φ x (fzs σ)).bind two?).map fun r => ((σ.set i (.frz r.1)).set j (.frz r.2), .nxt)
  | .aug i op x, σ => (((alls σ)[i]?).bind id).bind fun old => (ev Φ x (alls σ)).bind fun v => (augv op old v).map fun d => (σ.set i (.frz d), .nxt)
  | .iadd i x, σ => (ownAt σ i).bind fun l => (ev Φ x (fzs σ)).bind fun
    | .list m => if l.length + m.length ≤ 16777216 then some (σ.set i (.own (l ++ m)), .nxt) else none
    | _ => none
  | .augIdx i k op x, σ => (ownAt σ i).bind fun l => (ev Φ k (alls σ)).bind fun
    | .int n => if n.natAbs < 2 ^ 62 then (at? l n).bind fun old => (ev Φ x (alls σ)).bind fun v => (augv op old v).map fun d => (σ.set i (.own (putAt l n d)), .nxt) else none
    | _ => none
  | .append i x, σ => (ownAt σ i).bind fun l => if l.length < 16777216 then ((ev Φ x (alls σ)).bind fun d => if scalar d then some d else ev Φ x (fzs σ)).map fun d => (σ.set i (.own (l ++ [d])), .nxt) else none
  | .insert i k x, σ => (ownAt σ i).bind fun l => (ev Φ k (alls σ)).bind fun
    | .int n => if l.length < 16777216 && decide (n.natAbs < 2 ^ 62) then ((ev Φ x (alls σ)).bind fun d => if scalar d then some d else none).map fun d => (σ.set i (.own (insAt l n d)), .nxt) else none
    | _ => none
  | .extend i x, σ => (ownAt σ i).bind fun l => (ev Φ x (fzs σ)).bind fun
    | .list m => if l.length + m.length ≤ 16777216 then some (σ.set i (.own (l ++ m)), .nxt) else none
    | _ => none
  | .ite t a b, σ => ((ev Φ t (alls σ)).bind truth).bind fun c => if c then run a σ else run b σ
  | .ifSearch x a b, σ => (ev Φ x (alls σ)).bind fun
    | .str s => if ipv4 s then run a σ else run b σ
    | _ => none
  | .for1 i fz it b, σ => (evI Φ σ fz it).bind fun r => (items r.1).bind fun ds => forL (fun d σ => run b (σ.set i (.frz d))) ds r.2
  | .for2 i j fz it b, σ => (evI Φ σ fz it).bind fun r => (items r.1).bind fun ds => forL (fun d σ => (two? d).bind fun p => run b ((σ.set i (.frz p.1)).set j (.frz p.2))) ds r.2
  | .whil t b, σ => whileL (fun σ => (ev Φ t (alls σ)).bind truth) (run b) W σ
  | .ret x, σ => (ev Φ x (alls σ)).map fun d => (σ, .ret d)
  | .brk, σ => some (σ, .brk)
  | .cont, σ => some (σ, .cnt)
/-- a def's body: its result -/
noncomputable def fnOut (b : S) (n ar : Nat) (args : List D) : Option D :=
  if args.length = ar then
    match run Φ ipv4 W b (args.map .frz ++ List.replicate (n - args.length) .unset) with
    | some (_, .ret d) => some d
    | some (_, .nxt) => some .none
    | _ => none
  else none
end
end Mine
namespace Mine
open PySem

structure Cx where
  sc : Scope
  Γ : List (Str × Nat)
  k : Nat
  fns : List Str

noncomputable def Cx.own? (c : Cx) (x : Str) : Option Nat :=
  if x == ("__debug__" : Str) || x == ("__classdict__" : Str) || x == (".0" : Str) then none else
  match c.sc.names.lookup x with
  | some .local | some .cell | some .free => c.Γ.lookup x
  | _ => none
noncomputable def Cx.glob (c : Cx) (x : Str) : Bool := c.sc.names.lookup x == some .globalImplicit && x != ("__debug__" : Str)
noncomputable def Cx.builtin (c : Cx) (x : Str) : Bool := c.glob x && !c.fns.contains x
noncomputable def fn? : List Str → Str → Nat → Option Nat
  | [], _, _ => none
  | y :: r, x, k => if y == x then some k else fn? r x (k + 1)
noncomputable def Cx.fn? (c : Cx) (x : Str) : Option Nat := if c.glob x then Mine.fn? c.fns x 0 else none

noncomputable def bop? : Operator → Option BOp
  | .Add => some .add | .Sub => some .sub | .Mult => some .mul | .FloorDiv => some .div | .Mod => some .mod | .Pow => some .pow
  | _ => none
noncomputable def cop? : CmpOp → Option COp
  | .Eq => some .eq | .NotEq => some .ne | .Lt => some .lt | .LtE => some .le | .Gt => some .gt | .GtE => some .ge | .In => some .isin | .NotIn => some .notin
  | _ => none
noncomputable def bOf : BOp → Operator
  | .add => .Add | .sub => .Sub | .mul => .Mult | .div => .FloorDiv | .mod => .Mod | .pow => .Pow
noncomputable def cOf : COp → CmpOp
  | .eq => .Eq | .ne => .NotEq | .lt => .Lt | .le => .LtE | .gt => .Gt | .ge => .GtE | .isin => .In | .notin => .NotIn
theorem bop_is {o : Operator} {op : BOp} (h : bop? o = some op) : o = bOf op := by cases o <;> first | exact no h | (cases Option.some.inj h; rfl)
theorem cop_is {o : CmpOp} {op : COp} (h : cop? o = some op) : o = cOf op := by cases o <;> first | exact no h | (cases Option.some.inj h; rfl)
noncomputable def meth0? (n : Str) : Option M0 :=
  if n = "lower" then some .lower else if n = "upper" then some .upper else if n = "swapcase" then some .swapcase else none
noncomputable def meth1? (n : Str) : Option M1 :=
  if n = "split" then some .split else if n = "join" then some .join else if n = "startswith" then some .startswith else if n = "endswith" then some .endswith
  else if n = "find" then some .find else if n = "rfind" then some .rfind else if n = "index" then some .index else none

/-- the inner table of a comprehension, as the machine turns it -/
noncomputable def relab (inner outer : Scope) : Scope :=
  { inner with names := inner.names.map fun (n, k) => if (k == .free && outer.kind == .function && outer.names.lookup n == some .cell) then (n, .cell) else (n, k) }
noncomputable def compOk (inner outer : Scope) (xs : List Str) : Bool :=
  inner.kind == .function && inner.names.all (fun y => y.2 != .local || y.1 == (".0" : Str) || xs.contains y.1) && inner.names.all (fun y => y.2 != .cell) && inner.names.all (fun y => y.2 != .local || inner.names.lookup y.1 == some .local) &&
  inner.names.all fun y => y.2 != .free || (outer.names.lookup y.1 == some .cell || outer.names.lookup y.1 == some .free)
noncomputable def notSet : Expr → Bool
  | .Set .. => false
  | _ => true
noncomputable def isMinus1 : Expr → Bool
  | .UnaryOp .USub (.Constant (.int 1) _ _) _ => true
  | _ => false

noncomputable def onName {β : Type} (t : Expr) (f : Str → Pos → Option β) : Option β :=
  match t with
  | .Name x p => f x p
  | _ => none
theorem onName_is {β : Type} {t : Expr} {f : Str → Pos → Option β} {y : β} (h : onName t f = some y) : ∃ x p, t = .Name x p ∧ f x p = some y := by
  cases t <;> first | exact ⟨_, _, rfl, h⟩ | exact no h
noncomputable def on1 {α β : Type} (l : List α) (f : α → Option β) : Option β :=
  match l with
  | [a] => f a
  | _ => none
theorem on1_is {α β : Type} {l : List α} {f : α → Option β} {y : β} (h : on1 l f = some y) : ∃ a, l = [a] ∧ f a = some y := by
  match l, h with
  | [a], h => exact ⟨a, rfl, h⟩
  | [], h => exact no h
  | _ :: _ :: _, h => exact no h
noncomputable def isIs : CmpOp → Bool
  | .Is => true
  | _ => false
noncomputable def oneGen : Expr → Bool
  | .ListComp _ (_ :: _ :: _) _ _ => false
  | _ => true
noncomputable def cK : Const → Option X
  | .none => some .cnone
  | .bool b => some (.cbool b)
  | .int i => some (.cint i)
  | .str s => if s.length ≤ 1000 then some (.cstr s) else none
  | _ => none

mutual
noncomputable def cE : Nat → Cx → Expr → Option X
  | 0, _, _ => none
  | n + 1, c, e => match e with
    | .Constant k _ _ => cK k
    | .Name x _ => (c.own? x).map .var
    | .BinOp l op r _ => (bop? op).bind fun o => (cE n c l).bind fun a => (cE n c r).bind fun b => some (.bin o a b)
    | .UnaryOp op e _ => (match op with
      | .USub => (cE n c e).map .neg
      | .Not => (cE n c e).map .not
      | _ => none)
    | .BoolOp op es _ => (cEs n c es).bind fun xs => (match xs with | _ :: _ :: _ => boolX op xs | _ => none)
    | .IfExp t a b _ => (cE n c t).bind fun t => (cE n c a).bind fun a => (cE n c b).bind fun b => some (.ite t a b)
    | .Compare l ops rs _ => (match ops with
      | [] => none
      | op :: ops => (match rs with
        | [] => none
        | r :: rs => (match ops with
          | [] => (match rs with
            | [] => if isIs op then none else (cop? op).bind fun o => (cE n c l).bind fun a => (cE n c r).bind fun b => some (.cmp o a b)
            | _ :: _ => none)
          | op₂ :: ops => (match rs with
            | [] => none
            | r₂ :: rs => (match ops with
              | [] => (match rs with
                | [] => (cop? op).bind fun o₁ => (cop? op₂).bind fun o₂ => (cE n c l).bind fun a => (cE n c r).bind fun b₁ => (cE n c r₂).bind fun b₂ => some (.cmp2 o₁ o₂ a b₁ b₂)
                | _ :: _ => none)
              | _ :: _ => none)))))
    | .Subscript v i _ => (match i with
      | .Slice lo hi st _ => (match st with
        | none => (cE n c v).bind fun a => (cEo n c lo).bind fun l => (cEo n c hi).bind fun h => some (.slice a l h)
        | some st => (match lo with
          | none => (match hi with
            | none => if isMinus1 st then (cE n c v).map .rev else none
            | some _ => none)
          | some _ => none))
      | i => (cE n c v).bind fun a => (cE n c i).bind fun b => some (.idx a b))
    | .List es _ => (cEs n c es).map fun xs => .list (argsX xs)
    | .Tuple es _ _ => (cEs n c es).map fun xs => .tup (argsX xs)
    | .Call f args kws pos => (match kws with
      | [] => (match f with
        | .Attribute o name apos =>
          if apos.endLine == pos.line then
            match args with
            | [] => (meth0? name).bind fun m => (cE n c o).map (.meth0 m)
            | [e] => (meth1? name).bind fun m => (cE n c o).bind fun a => (cE n c e).map (.meth1 m a)
            | _ => none
          else none
        | .Name f _ =>
          if f = "len" then (if c.builtin f then (match args with | [e] => (cE n c e).map .len | _ => none) else none)
          else if f = "isinstance" then (if c.builtin f then (match args with | [e, .Name b _] => if b = "bool" && c.builtin b then (cE n c e).map .isBool else none | _ => none) else none)
          else match args with
            | [] => none
            | _ :: _ => (c.fn? f).bind fun i => (cEs n c args).map fun xs => .call i (argsX xs)
        | _ => none)
      | _ :: _ => none)
    | .ListComp elt gens inner _ => (match gens with
      | [] => none
      | g :: gens => (match gens with
        | [] => (match g with
          | ⟨tg, it, ifs, as⟩ => (match tg with
            | .Name x _ => if as = 0 then (if compOk inner c.sc [x] && notSet it && inner.names.lookup x == some .local then
                  (cI n c it).bind fun i => (cE n ⟨relab inner c.sc, (x, c.k) :: c.Γ, c.k + 1, c.fns⟩ elt).bind fun e =>
                    match ifs with
                    | [] => some (.comp e i (.cbool true))
                    | [t] => (cE n ⟨relab inner c.sc, (x, c.k) :: c.Γ, c.k + 1, c.fns⟩ t).map fun t => .comp e i t
                    | _ => none
                else none) else none
            | _ => none))
        | g₂ :: gens => (match gens with
          | [] => none
          | _ :: _ => none)))
    | _ => none
noncomputable def cEo : Nat → Cx → Option Expr → Option X
  | 0, _, _ => none
  | _ + 1, _, none => some .cnone
  | n + 1, c, some e => cE n c e
noncomputable def cEs : Nat → Cx → List Expr → Option (List X)
  | 0, _, _ => none
  | _ + 1, _, [] => some []
  | n + 1, c, e :: r => (cE n c e).bind fun x => (cEs n c r).bind fun xs => some (x :: xs)
noncomputable def cI : Nat → Cx → Expr → Option X
  | 0, _, _ => none
  | n + 1, c, e => match e with
    | .Call f args kws q => (match f with
      | .Name f p => (match kws with
        | [] => (match args with
          | [] => cE n c (.Call (.Name f p) [] [] q)
          | e :: args => (match args with
            | [] => if f = "range" then (if c.builtin f then (cE n c e).map fun h => .range (.cint 0) h else none) else cE n c (.Call (.Name f p) [e] [] q)
            | e' :: args => (match args with
              | [] => if f = "range" then (if c.builtin f then (cE n c e).bind fun l => (cE n c e').map fun h => .range l h else none) else cE n c (.Call (.Name f p) [e, e'] [] q)
              | e'' :: args => cE n c (.Call (.Name f p) (e :: e' :: e'' :: args) [] q))))
        | k :: kws => cE n c (.Call (.Name f p) args (k :: kws) q))
      | f => cE n c (.Call f args kws q))
    | e => cE n c e
noncomputable def boolX : BoolOp → List X → Option X
  | _, [] => none
  | _, [x] => some x
  | .And, x :: r => (boolX .And r).map (.and x)
  | .Or, x :: r => (boolX .Or r).map (.or x)
noncomputable def argsX : List X → X
  | [] => .anil
  | x :: r => .acons x (argsX r)
end

noncomputable def vs : X → List Nat
  | .var i => [i]
  | .cnone => []
  | .cbool _ => []
  | .cint _ => []
  | .cstr _ => []
  | .anil => []
  | .neg a => vs a
  | .not a => vs a
  | .isTru a => vs a
  | .rev a => vs a
  | .list a => vs a
  | .tup a => vs a
  | .len a => vs a
  | .isBool a => vs a
  | .call _ a => vs a
  | .meth0 _ a => vs a
  | .bin _ a b => vs a ++ vs b
  | .and a b => vs a ++ vs b
  | .or a b => vs a ++ vs b
  | .cmp _ a b => vs a ++ vs b
  | .idx a b => vs a ++ vs b
  | .acons a b => vs a ++ vs b
  | .meth1 _ a b => vs a ++ vs b
  | .range a b => vs a ++ vs b
  | .sorted a b => vs a ++ vs b
  | .cmp2 _ _ a b c => vs a ++ vs b ++ vs c
  | .ite a b c => vs a ++ vs b ++ vs c
  | .slice a b c => vs a ++ vs b ++ vs c
  | .comp a b c => vs a ++ vs b ++ vs c
  | .comp2 a b c => vs a ++ vs b ++ vs c
/-- does the expression make its own new list? -/
noncomputable def fresh : X → Bool
  | .list _ | .comp .. | .comp2 .. | .slice .. | .bin .add .. | .bin .mul .. | .sorted .. | .meth1 .split .. => true
  | _ => false

noncomputable def mutS : Nat → Stmt → List Str
  | 0, _ => []
  | _ + 1, .AugAssign (.Subscript (.Name x _) _ _) _ _ _ => [x]
  | _ + 1, .AugAssign (.Name x _) .Add (.ListComp ..) _ => [x]
  | _ + 1, .Expr (.Call (.Attribute (.Name x _) _ _) _ _ _) _ => [x]
  | n + 1, .For _ _ b _ _ => b.flatMap (mutS n)
  | n + 1, .While _ b _ _ => b.flatMap (mutS n)
  | n + 1, .If _ a b _ => a.flatMap (mutS n) ++ b.flatMap (mutS n)
  | _, _ => []

noncomputable def Cx.store? (c : Cx) (x : Str) : Option Nat :=
  match c.sc.names.lookup x with
  | some .local | some .cell => c.Γ.lookup x
  | _ => none

noncomputable def search? (c : Cx) (t : Expr) : Option Expr :=
  match t with
  | .Call f args kws p => (match kws with
    | [] => (match f with
      | .Attribute o m ap => onName o fun r _ => on1 args fun e => if r = "IPV4_RE" && m = "search" && c.glob r && !c.fns.contains r && ap.endLine == p.line then some e else none
      | _ => none)
    | _ :: _ => none)
  | _ => none

mutual
noncomputable def cS : Nat → Cx → List Nat → Stmt → Option S
  | 0, _, _, _ => none
  | n + 1, c, mu, st => match st with
    | .Assign ts e _ => on1 ts fun t => (match t with
      | .Name x _ => if oneGen e then (c.store? x).bind fun i => (cE n c e).map fun v => .assign i ((vs v).filter mu.contains) (mu.contains i && fresh v) v else none
      | _ => none)
    | .AugAssign t op e _ => (match t with
      | .Name x _ => (c.store? x).bind fun i => if c.own? x == some i then ((bop? op).bind fun o => (cE n c e).bind fun v =>
          if mu.contains i then none else some (.aug i o v)) else none
      | .Subscript v k _ => onName v fun x _ => (c.own? x).bind fun i => (bop? op).bind fun o => (cE n c k).bind fun k => (cE n c e).map fun v => .augIdx i k o v
      | _ => none)
    | .Expr e _ => (match e with
      | .Call f args kws p => (match kws with
        | [] => (match f with
          | .Attribute o m ap => onName o fun x _ =>
              if ap.endLine == p.line then
                (c.own? x).bind fun i => match args with
                  | [e] => if m = "append" then (cE n c e).map (.append i) else none
                  | [_, _] => none
                  | _ => none
              else none
          | _ => none)
        | _ :: _ => none)
      | _ => none)
    | .If t a b _ => (cSs n c mu a).bind fun a => (cSs n c mu b).bind fun b =>
        match search? c t with
        | some e => (cE n c e).map fun x => .ifSearch x a b
        | none => (cE n c t).map fun t => .ite t a b
    | .For t it b els _ => (match els with
      | [] => if notSet it then (match t with
        | .Name x _ => (c.store? x).bind fun i => (cI n c it).bind fun v => (cSs n c mu b).map fun b => .for1 i ((vs v).filter mu.contains) v b
        | _ => none) else none
      | _ :: _ => none)
    | .While t b els _ => (match els with
      | [] => (cE n c t).bind fun t => (cSs n c mu b).map fun b => .whil t b
      | _ :: _ => none)
    | .Return e _ => (match e with
      | some e => (cE n c e).map .ret
      | none => none)
    | .Break _ => some .brk
    | .Continue _ => some .cont
    | _ => none
noncomputable def cSs : Nat → Cx → List Nat → List Stmt → Option S
  | 0, _, _, _ => none
  | _ + 1, _, _, [] => some .skip
  | n + 1, c, mu, s :: r => (cS n c mu s).bind fun a => (cSs n c mu r).map fun b => .seq a b
end

noncomputable def slotsOf (sc : Scope) : List Str := (sc.names.filter fun x => x.2 == .local || x.2 == .cell).map (·.1)
noncomputable def number : List Str → Nat → List (Str × Nat)
  | [], _ => []
  | x :: r, k => (x, k) :: number r (k + 1)
noncomputable def fuel : Nat := 60
/-- a def that the mini language can enter -/
noncomputable def headOk (params : Arguments) (sc : Scope) : Bool :=
  sc.kind == .function && !sc.isGenerator && !sc.isCoroutine && params.posonlyargs.isEmpty && params.vararg.isNone && params.kwonlyargs.isEmpty && params.kwarg.isNone && params.defaults.isEmpty
      && (params.args.map (·.arg)).isPrefixOf (slotsOf sc) && decide (slotsOf sc).Nodup && sc.names.all (fun x => sc.names.lookup x.1 == some x.2) && sc.names.all (fun x => x.2 != .free)
noncomputable def headCx (fns : List Str) (sc : Scope) : Cx := ⟨sc, number (slotsOf sc) 0, (slotsOf sc).length, fns⟩
noncomputable def headMu (fns : List Str) (body : List Stmt) (sc : Scope) : List Nat := (body.flatMap (mutS fuel)).filterMap fun x => (headCx fns sc).Γ.lookup x
/-- a def's body in the mini language, with the number of its names -/
noncomputable def cF (fns : List Str) (params : Arguments) (body : List Stmt) (sc : Scope) : Option (S × Nat × Nat) :=
  if headOk params sc then (cSs fuel (headCx fns sc) (headMu fns body sc) body).map fun s => (s, (slotsOf sc).length, params.args.length) else none

noncomputable def defOf (p : Program) (n : Str) : Option (Arguments × List Stmt × Scope) := p.main.body.findSome? fun
  | .FunctionDef m a b _ _ _ sc _ _ _ => if m == n then some (a, b, sc) else none
  | _ => none
end Mine
namespace Mine
open PySem PySem.SeqAt

/-- everything that stood stands as it was -/
abbrev KP (h h' : Heap) : Prop := ∀ b o, h.get? b = some o → h'.get? b = some o
theorem KP.trans {h h' h'' : Heap} (a : KP h h') (b : KP h' h'') : KP h h'' := fun x o e => b x o (a x o e)
theorem KP.refl (h : Heap) : KP h h := fun _ _ e => e

/-- a plain tuple -/
abbrev IsT (h : Heap) (l : Addr) (items : Array Value) (n : Nat) : Prop := h.get? l = some { cls := .type "tuple", dict := none, data := .seq items n, slots := #[] }
mutual
/-- a value bears a datum; fp: all the lists and tuples that it goes through -/
inductive Rd (h : Heap) : Value → D → List Addr → Prop
  | none : Rd h .none .none []
  | bool (b) : Rd h (.bool b) (.bool b) []
  | int (i t) : Rd h (.int i t) (.int i) []
  | str (x t) : x.length ≤ 16777216 → Rd h (.str x t) (.str x) []
  | list {a vs n xs fp} : vs.size ≤ 16777216 → IsL h a vs n → Rds h vs.toList xs fp → Rd h (.ref a) (.list xs) (a :: fp)
  | tuple {a vs n xs fp} : vs.size ≤ 16777216 → IsT h a vs n → Rds h vs.toList xs fp → Rd h (.ref a) (.tuple xs) (a :: fp)
inductive Rds (h : Heap) : List Value → List D → List Addr → Prop
  | nil : Rds h [] [] []
  | cons {v vs d ds fp fq} : Rd h v d fp → Rds h vs ds fq → Rds h (v :: vs) (d :: ds) (fp ++ fq)
end

mutual
theorem Rd.at {h h' : Heap} : ∀ {v : Value} {d : D} {fp : List Addr}, Rd h v d fp → (∀ b ∈ fp, ∀ o, h.get? b = some o → h'.get? b = some o) → Rd h' v d fp
  | _, _, _, .none, _ => .none
  | _, _, _, .bool b, _ => .bool b
  | _, _, _, .int i t, _ => .int i t
  | _, _, _, .str x t z, _ => .str x t z
  | _, _, _, .list z h1 h4, k => .list z (k _ (List.mem_cons_self ..) _ h1) (h4.at fun b hb => k b (List.mem_cons_of_mem _ hb))
  | _, _, _, .tuple z h1 h4, k => .tuple z (k _ (List.mem_cons_self ..) _ h1) (h4.at fun b hb => k b (List.mem_cons_of_mem _ hb))
theorem Rds.at {h h' : Heap} : ∀ {vs : List Value} {ds : List D} {fp : List Addr}, Rds h vs ds fp → (∀ b ∈ fp, ∀ o, h.get? b = some o → h'.get? b = some o) → Rds h' vs ds fp
  | _, _, _, .nil, _ => .nil
  | _, _, _, .cons r rs, k => .cons (r.at fun b hb => k b (List.mem_append_left _ hb)) (rs.at fun b hb => k b (List.mem_append_right _ hb))
end
theorem Rd.kp {h h' : Heap} {v : Value} {d : D} {fp : List Addr} (r : Rd h v d fp) (k : KP h h') : Rd h' v d fp := r.at fun b _ o e => k b o e
theorem Rds.kp {h h' : Heap} {v : List Value} {d : List D} {fp : List Addr} (r : Rds h v d fp) (k : KP h h') : Rds h' v d fp := r.at fun b _ o e => k b o e

mutual
theorem Rd.live {h : Heap} : ∀ {v : Value} {d : D} {fp : List Addr}, Rd h v d fp → ∀ b ∈ fp, ∃ o, h.get? b = some o
  | _, _, _, .none, _, hb => nomatch hb
  | _, _, _, .bool _, _, hb => nomatch hb
  | _, _, _, .int _ _, _, hb => nomatch hb
  | _, _, _, .str _ _ _, _, hb => nomatch hb
  | _, _, _, .list _ h1 h4, b, hb => by
    rcases List.mem_cons.mp hb with rfl | hb
    · exact ⟨_, h1⟩
    · exact h4.live b hb
  | _, _, _, .tuple _ h1 h4, b, hb => by
    rcases List.mem_cons.mp hb with rfl | hb
    · exact ⟨_, h1⟩
    · exact h4.live b hb
theorem Rds.live {h : Heap} : ∀ {vs : List Value} {ds : List D} {fp : List Addr}, Rds h vs ds fp → ∀ b ∈ fp, ∃ o, h.get? b = some o
  | _, _, _, .nil, _, hb => nomatch hb
  | _, _, _, .cons r rs, b, hb => by
    rcases List.mem_append.mp hb with hb | hb
    · exact r.live b hb
    · exact rs.live b hb
end
mutual
theorem Rd.seqs {h : Heap} : ∀ {v : Value} {d : D} {fp : List Addr}, Rd h v d fp → ∀ b ∈ fp, ∃ o vs n, h.get? b = some o ∧ o.data = .seq vs n
  | _, _, _, .none, _, hb => nomatch hb
  | _, _, _, .bool _, _, hb => nomatch hb
  | _, _, _, .int _ _, _, hb => nomatch hb
  | _, _, _, .str _ _ _, _, hb => nomatch hb
  | _, _, _, .list _ h1 h4, b, hb => by
    rcases List.mem_cons.mp hb with rfl | hb
    · exact ⟨_, _, _, h1, rfl⟩
    · exact h4.seqs b hb
  | _, _, _, .tuple _ h1 h4, b, hb => by
    rcases List.mem_cons.mp hb with rfl | hb
    · exact ⟨_, _, _, h1, rfl⟩
    · exact h4.seqs b hb
theorem Rds.seqs {h : Heap} : ∀ {vs : List Value} {ds : List D} {fp : List Addr}, Rds h vs ds fp → ∀ b ∈ fp, ∃ o vs n, h.get? b = some o ∧ o.data = .seq vs n
  | _, _, _, .nil, _, hb => nomatch hb
  | _, _, _, .cons r rs, b, hb => by
    rcases List.mem_append.mp hb with hb | hb
    · exact r.seqs b hb
    · exact rs.seqs b hb
end
theorem Rds.length {h : Heap} : ∀ {vs : List Value} {ds : List D} {fp : List Addr}, Rds h vs ds fp → vs.length = ds.length
  | _, _, _, .nil => rfl
  | _, _, _, .cons _ rs => by simp [rs.length]
theorem Rds.get {h : Heap} : ∀ {vs : List Value} {ds : List D} {fp : List Addr}, Rds h vs ds fp → ∀ {j : Nat} {d : D}, ds[j]? = some d → ∃ v fq, vs[j]? = some v ∧ Rd h v d fq ∧ ∀ b ∈ fq, b ∈ fp
  | _, _, _, .nil, j, d, e => by simp at e
  | _, _, _, .cons (v := v) (fp := fp) r rs, 0, d, e => by
    simp at e; subst e
    exact ⟨v, fp, rfl, r, fun b hb => List.mem_append_left _ hb⟩
  | _, _, _, .cons r rs, j + 1, d, e => by
    obtain ⟨v, fq, h1, h2, h3⟩ := rs.get (j := j) (by simpa using e)
    exact ⟨v, fq, by simpa using h1, h2, fun b hb => List.mem_append_right _ (h3 b hb)⟩
theorem Rds.append {h : Heap} : ∀ {vs ws : List Value} {ds es : List D} {fp fq : List Addr}, Rds h vs ds fp → Rds h ws es fq → Rds h (vs ++ ws) (ds ++ es) (fp ++ fq)
  | _, _, _, _, _, _, .nil, r => r
  | _, _, _, _, _, _, .cons a b, r => by rw [List.append_assoc]; exact .cons a (b.append r)
theorem Rds.take {h : Heap} : ∀ {vs : List Value} {ds : List D} {fp : List Addr}, Rds h vs ds fp → ∀ n, ∃ fq, Rds h (vs.take n) (ds.take n) fq ∧ ∀ b ∈ fq, b ∈ fp
  | _, _, _, .nil, n => ⟨[], by simp; exact .nil, fun _ hb => nomatch hb⟩
  | _, _, _, .cons _ _, 0 => ⟨[], by simp; exact .nil, fun _ hb => nomatch hb⟩
  | _, _, _, .cons r rs, n + 1 => by
    obtain ⟨fq, h1, h2⟩ := rs.take n
    exact ⟨_, .cons r h1, fun b hb => by
      rcases List.mem_append.mp hb with hb | hb
      · exact List.mem_append_left _ hb
      · exact List.mem_append_right _ (h2 b hb)⟩
theorem Rds.drop {h : Heap} : ∀ {vs : List Value} {ds : List D} {fp : List Addr}, Rds h vs ds fp → ∀ n, ∃ fq, Rds h (vs.drop n) (ds.drop n) fq ∧ ∀ b ∈ fq, b ∈ fp
  | _, _, _, .nil, n => ⟨[], by simp; exact .nil, fun _ hb => nomatch hb⟩
  | _, _, _, .cons r rs, 0 => ⟨_, .cons r rs, fun _ hb => hb⟩
  | _, _, _, .cons r rs, n + 1 => by
    obtain ⟨fq, h1, h2⟩ := rs.drop n
    exact ⟨fq, h1, fun b hb => List.mem_append_right _ (h2 b hb)⟩
theorem Rds.reverse {h : Heap} : ∀ {vs : List Value} {ds : List D} {fp : List Addr}, Rds h vs ds fp → ∃ fq, Rds h vs.reverse ds.reverse fq ∧ ∀ b ∈ fq, b ∈ fp
  | _, _, _, .nil => ⟨[], .nil, fun _ hb => nomatch hb⟩
  | _, _, _, .cons r rs => by
    obtain ⟨fq, h1, h2⟩ := rs.reverse
    refine ⟨fq ++ (_ ++ []), by simpa using h1.append (.cons r .nil), fun b hb => ?_⟩
    rcases List.mem_append.mp hb with hb | hb
    · exact List.mem_append_right _ (h2 b hb)
    · exact List.mem_append_left _ (by simpa using hb)
theorem Rds.set {h : Heap} : ∀ {vs : List Value} {ds : List D} {fp : List Addr}, Rds h vs ds fp → ∀ (n : Nat) {v : Value} {d : D} {fq : List Addr}, Rd h v d fq → ∃ fr, Rds h (vs.set n v) (ds.set n d) fr ∧ ∀ b ∈ fr, b ∈ fp ∨ b ∈ fq
  | _, _, _, .nil, n, _, _, _, _ => ⟨[], by simp; exact .nil, fun _ hb => nomatch hb⟩
  | _, _, _, .cons r rs, 0, _, _, _, q => ⟨_, .cons q rs, fun b hb => by
      rcases List.mem_append.mp hb with hb | hb
      · exact .inr hb
      · exact .inl (List.mem_append_right _ hb)⟩
  | _, _, _, .cons r rs, n + 1, _, _, _, q => by
    obtain ⟨fr, h1, h2⟩ := rs.set n q
    refine ⟨_, .cons r h1, fun b hb => ?_⟩
    rcases List.mem_append.mp hb with hb | hb
    · exact .inl (List.mem_append_left _ hb)
    · rcases h2 b hb with q | q
      · exact .inl (List.mem_append_right _ q)
      · exact .inr q

mutual
theorem Rd.unique {h : Heap} : ∀ {v : Value} {d d' : D} {fp fp' : List Addr}, Rd h v d fp → Rd h v d' fp' → d = d'
  | _, _, _, _, _, .none, r => by cases r; rfl
  | _, _, _, _, _, .bool _, r => by cases r; rfl
  | _, _, _, _, _, .int _ _, r => by cases r; rfl
  | _, _, _, _, _, .str _ _ _, r => by cases r; rfl
  | _, _, _, _, _, .list _ h1 h4, r => by
    cases r with
    | list _ k1 k4 => rw [IsL, h1] at k1; simp only [Option.some.injEq, Obj.mk.injEq, Data.seq.injEq] at k1; obtain ⟨_, _, ⟨rfl, _⟩, _⟩ := k1; rw [h4.unique k4]
    | tuple _ k1 k4 => rw [IsT, h1] at k1; simp at k1
  | _, _, _, _, _, .tuple _ h1 h4, r => by
    cases r with
    | tuple _ k1 k4 => rw [IsT, h1] at k1; simp only [Option.some.injEq, Obj.mk.injEq, Data.seq.injEq] at k1; obtain ⟨_, _, ⟨rfl, _⟩, _⟩ := k1; rw [h4.unique k4]
    | list _ k1 k4 => rw [IsL, h1] at k1; simp at k1
theorem Rds.unique {h : Heap} : ∀ {vs : List Value} {ds ds' : List D} {fp fp' : List Addr}, Rds h vs ds fp → Rds h vs ds' fp' → ds = ds'
  | _, _, _, _, _, .nil, r => by cases r; rfl
  | _, _, _, _, _, .cons a b, r => by
    cases r with
    | cons a' b' => rw [a.unique a', b.unique b']
end

theorem okN_mono : ∀ {n m : Nat} {d : D}, n ≤ m → okN n d = true → okN m d = true
  | _, _, .none, _, _ => by simp [okN]
  | _, _, .bool _, _, _ => by simp [okN]
  | _, _, .int _, _, _ => by simp [okN]
  | _, _, .str _, _, _ => by simp [okN]
  | 0, _, .list _, _, h => by exact noB h
  | 0, _, .tuple _, _, h => by exact noB h
  | _, _, .dict _, _, h => by simp [okN] at h
  | n + 1, 0, _, hle, _ => absurd hle (by omega)
  | n + 1, m + 1, .list l, hle, h => by
    rw [okN, List.all_eq_true] at h ⊢
    exact fun x hx => okN_mono (Nat.le_of_succ_le_succ hle) (h x hx)
  | n + 1, m + 1, .tuple l, hle, h => by
    rw [okN, List.all_eq_true] at h ⊢
    exact fun x hx => okN_mono (Nat.le_of_succ_le_succ hle) (h x hx)

mutual
theorem eqv_self : ∀ (n : Nat) (d : D), okN n d = true → PyData.eqv d d = true
  | _, .none, _ => rfl
  | _, .bool b, _ => by simp [PyData.eqv]
  | _, .int i, _ => by simp [PyData.eqv]
  | _, .str x, _ => by simp [PyData.eqv]
  | 0, .list _, h => by exact noB h
  | 0, .tuple _, h => by exact noB h
  | n + 1, .list xs, h => by rw [PyData.eqv]; exact eqv_selfs n xs (by simpa [okN] using h)
  | n + 1, .tuple xs, h => by rw [PyData.eqv]; exact eqv_selfs n xs (by simpa [okN] using h)
  | _, .dict _, h => by simp [okN] at h
theorem eqv_selfs : ∀ (n : Nat) (xs : List D), (∀ x ∈ xs, okN n x = true) → PyData.eqvAll xs xs = true
  | _, [], _ => rfl
  | n, x :: xs, h => by rw [PyData.eqvAll, eqv_self n x (h x (List.mem_cons_self ..)), eqv_selfs n xs fun y hy => h y (List.mem_cons_of_mem _ hy)]; rfl
end

theorem eqAtN : ∀ (n : Nat) (A : Around) (s : Shared) {a b : Value} {da db : D} {fp fq : List Addr}, Rd s.heap a da fp → Rd s.heap b db fq → okN n da = true → okN n db = true →
    A.units + n < cLine → EqAt A s a b (PyData.eqv da db) := by
  intro n
  induction n with
  | zero =>
    intro A s a b da db fp fq ra rb ha hb hu
    have hu' : A.units < cLine := hu
    cases ra with
    | none => cases rb with
      | none => exact EqAt.same _
      | bool y => exact EqAt.none_bool y
      | int y u => exact EqAt.none_int y u
      | str y u _ => exact EqAt.none_str y u
      | list => exact noB hb
      | tuple => exact noB hb
    | bool x => cases rb with
      | none => exact EqAt.bool_none x
      | bool y => exact EqAt.bool_bool x y
      | int y u => exact EqAt.bool_int x y u
      | str y u _ => exact EqAt.bool_str x y u
      | list => exact noB hb
      | tuple => exact noB hb
    | int x t => cases rb with
      | none => exact EqAt.int_none x t
      | bool y => exact EqAt.int_bool x t y
      | int y u => exact EqAt.int_int x t y u
      | str y u _ => exact EqAt.int_str x t y u
      | list => exact noB hb
      | tuple => exact noB hb
    | str x t _ => cases rb with
      | none => exact EqAt.str_none x t
      | bool y => exact EqAt.str_bool x t y
      | int y u => exact EqAt.str_int x t y u
      | str y u _ => exact EqAt.str_str x t y u
      | list => exact noB hb
      | tuple => exact noB hb
    | list => exact noB ha
    | tuple => exact noB ha
  | succ n ih =>
    intro A s a b da db fp fq ra rb ha hb hu
    have hu' : A.units < cLine := by omega
    have hin : A.in1.units + n < cLine := by show A.units + 1 + n < cLine; omega
    have both : ∀ {vs ws : Array Value} {xs ys : List D} {fp fq : List Addr}, Rds s.heap vs.toList xs fp → Rds s.heap ws.toList ys fq → (∀ x ∈ xs, okN n x = true) → (∀ y ∈ ys, okN n y = true) →
        ∀ j (j1 : j < vs.size) (j2 : j < ws.size), EqAt A.in1 s vs[j] ws[j] (pairEq xs ys j) := by
      intro vs ws xs ys fp fq r1 r2 o1 o2 j j1 j2
      have l1 : j < xs.length := by have := r1.length; simp at this; omega
      have l2 : j < ys.length := by have := r2.length; simp at this; omega
      obtain ⟨v, f1, e1, q1, _⟩ := r1.get (j := j) (d := xs[j]) (by simp [l1])
      obtain ⟨u, f2, e2, q2, _⟩ := r2.get (j := j) (d := ys[j]) (by simp [l2])
      have e1' : v = vs[j] := by
        have : vs.toList[j]? = some vs[j] := by simp [j1]
        rw [this] at e1; cases e1; rfl
      have e2' : u = ws[j] := by
        have : ws.toList[j]? = some ws[j] := by simp [j2]
        rw [this] at e2; cases e2; rfl
      subst e1' e2'
      have := ih A.in1 s q1 q2 (o1 _ (List.getElem_mem ..)) (o2 _ (List.getElem_mem ..)) hin
      show EqAt A.in1 s _ _ (PyData.eqv (xs.getD j .none) (ys.getD j .none))
      simpa [List.getD, l1, l2] using this
    cases ra with
    | none => cases rb with
      | none => exact EqAt.same _
      | bool y => exact EqAt.none_bool y
      | int y u => exact EqAt.none_int y u
      | str y u _ => exact EqAt.none_str y u
      | list _ k1 k4 => exact EqAt.none_list ⟨_, k1, rfl, _, rfl⟩ hu'
      | tuple _ k1 k4 => exact EqAt.none_tuple ⟨_, k1, rfl, _, rfl⟩ hu'
    | bool x => cases rb with
      | none => exact EqAt.bool_none x
      | bool y => exact EqAt.bool_bool x y
      | int y u => exact EqAt.bool_int x y u
      | str y u _ => exact EqAt.bool_str x y u
      | list _ k1 k4 => exact EqAt.bool_list x ⟨_, k1, rfl, _, rfl⟩ hu'
      | tuple _ k1 k4 => exact EqAt.bool_tuple x ⟨_, k1, rfl, _, rfl⟩ hu'
    | int x t => cases rb with
      | none => exact EqAt.int_none x t
      | bool y => exact EqAt.int_bool x t y
      | int y u => exact EqAt.int_int x t y u
      | str y u _ => exact EqAt.int_str x t y u
      | list _ k1 k4 => exact EqAt.int_list x t ⟨_, k1, rfl, _, rfl⟩ hu'
      | tuple _ k1 k4 => exact EqAt.int_tuple x t ⟨_, k1, rfl, _, rfl⟩ hu'
    | str x t _ => cases rb with
      | none => exact EqAt.str_none x t
      | bool y => exact EqAt.str_bool x t y
      | int y u => exact EqAt.str_int x t y u
      | str y u _ => exact EqAt.str_str x t y u
      | list _ k1 k4 => exact EqAt.str_list x t ⟨_, k1, rfl, _, rfl⟩ hu'
      | tuple _ k1 k4 => exact EqAt.str_tuple x t ⟨_, k1, rfl, _, rfl⟩ hu'
    | @list l vs m xs f1 z1 h1 h4 =>
      have hl : s.heap.IsList l vs := ⟨_, h1, rfl, _, rfl⟩
      cases rb with
      | none => exact EqAt.list_none hl hu'
      | bool y => exact EqAt.list_bool y hl hu'
      | int y u => exact EqAt.list_int y u hl hu'
      | str y u _ => exact EqAt.list_str y u hl hu'
      | tuple _ k1 k4 => exact EqAt.list_tuple hl ⟨_, k1, rfl, _, rfl⟩ hu'
      | @list l' ws m' ys f2 z2 k1 k4 =>
        have hl' : s.heap.IsList l' ws := ⟨_, k1, rfl, _, rfl⟩
        have n1 : vs.size = xs.length := by simpa using h4.length
        have n2 : ws.size = ys.length := by simpa using k4.length
        have oa : ∀ x ∈ xs, okN n x = true := by simpa [okN] using ha
        have ob : ∀ x ∈ ys, okN n x = true := by simpa [okN] using hb
        show EqAt A s (.ref l) (.ref l') (PyData.eqvAll xs ys)
        by_cases hll : l = l'
        · subst hll
          have e : xs = ys := by
            have := Rd.unique (Rd.list z1 h1 h4) (Rd.list z2 k1 k4)
            injection this
          rw [e] at oa ⊢
          rw [eqv_selfs n ys oa]
          exact EqAt.same _
        · by_cases hsz : vs.size = ws.size
          · rw [← eqvAll_same_length (by omega : xs.length = ys.length), ← n1]
            exact EqAt.of_refs hll (RcAt.lists hl hl' hsz hu' (both h4 k4 oa ob))
          · rw [eqvAll_other_length (by omega : xs.length ≠ ys.length)]
            exact EqAt.of_refs hll (RcAt.lists_lengths hl hl' (by simpa using hsz) hu')
    | @tuple l vs m xs f1 z1 h1 h4 =>
      have hl : s.heap.IsTuple l vs := ⟨_, h1, rfl, _, rfl⟩
      cases rb with
      | none => exact EqAt.tuple_none hl hu'
      | bool y => exact EqAt.tuple_bool y hl hu'
      | int y u => exact EqAt.tuple_int y u hl hu'
      | str y u _ => exact EqAt.tuple_str y u hl hu'
      | list _ k1 k4 => exact EqAt.tuple_list hl ⟨_, k1, rfl, _, rfl⟩ hu'
      | @tuple l' ws m' ys f2 z2 k1 k4 =>
        have hl' : s.heap.IsTuple l' ws := ⟨_, k1, rfl, _, rfl⟩
        have n1 : vs.size = xs.length := by simpa using h4.length
        have n2 : ws.size = ys.length := by simpa using k4.length
        have oa : ∀ x ∈ xs, okN n x = true := by simpa [okN] using ha
        have ob : ∀ x ∈ ys, okN n x = true := by simpa [okN] using hb
        show EqAt A s (.ref l) (.ref l') (PyData.eqvAll xs ys)
        by_cases hll : l = l'
        · subst hll
          have e : xs = ys := by
            have := Rd.unique (Rd.tuple z1 h1 h4) (Rd.tuple z2 k1 k4)
            injection this
          rw [e] at oa ⊢
          rw [eqv_selfs n ys oa]
          exact EqAt.same _
        · rw [← eqvAll_eq xs ys, ← n1, ← n2]
          exact EqAt.of_refs hll (RcAt.tuples hl hl' hu' (both h4 k4 oa ob))
theorem Rd.int_is {h : Heap} {v : Value} {i : Int} {fp : List Addr} (r : Rd h v (.int i) fp) : ∃ t, v = .int i t := by cases r; exact ⟨_, rfl⟩
theorem Rd.str_is {h : Heap} {v : Value} {i : Str} {fp : List Addr} (r : Rd h v (.str i) fp) : ∃ t, v = .str i t ∧ i.length ≤ 16777216 := by cases r; exact ⟨_, rfl, by assumption⟩
/-- a list, as the heap has it -/
inductive LstAt (h : Heap) (v : Value) (xs : List D) (fp : List Addr) : Prop
  | mk (a vs n f) (e : v = .ref a) (ef : fp = a :: f) (z : vs.size ≤ 16777216) (h1 : IsL h a vs n) (h4 : Rds h vs.toList xs f) : LstAt h v xs fp
theorem Rd.list_is {h : Heap} {v : Value} {xs : List D} {fp : List Addr} (r : Rd h v (.list xs) fp) : LstAt h v xs fp := by cases r; exact ⟨_, _, _, _, rfl, rfl, by assumption, by assumption, by assumption⟩
end Mine
namespace Mine
open PySem PySem.SeqAt

noncomputable def Go (s s' : Shared) : Prop := ∃ h' tk, s' = { s with heap := h', toks := tk } ∧ KP s.heap h'
theorem Go.refl (s : Shared) : Go s s := ⟨s.heap, s.toks, rfl, KP.refl _⟩
theorem Go.tok (s : Shared) (t : Nat) : Go s { s with toks := t } := ⟨s.heap, t, rfl, KP.refl _⟩
theorem Go.push (s : Shared) (o : Obj) (t : Nat) : Go s { s with heap := s.heap.push o, toks := t } := ⟨_, t, rfl, fun _ _ e => Heap.get?_push_of_some _ e⟩
theorem Go.trans {a b c : Shared} (x : Go a b) (y : Go b c) : Go a c := by
  obtain ⟨h, t, rfl, k⟩ := x
  obtain ⟨h', t', rfl, k'⟩ := y
  exact ⟨h', t', rfl, KP.trans k k'⟩
theorem Go.kp {a b : Shared} (x : Go a b) : KP a.heap b.heap := by obtain ⟨h, t, rfl, k⟩ := x; exact k

abbrev Off (fp O : List Addr) : Prop := ∀ a ∈ fp, a ∉ O
abbrev Live (O : List Addr) (h : Heap) : Prop := ∀ a ∈ O, ∃ o, h.get? a = some o
theorem Live.kp {O : List Addr} {h h' : Heap} (x : Live O h) (k : KP h h') : Live O h' := fun a ha => let ⟨o, e⟩ := x a ha; ⟨o, k a o e⟩
theorem size_none (h : Heap) : h.get? h.objs.size = none := by
  cases e : h.get? h.objs.size with
  | none => rfl
  | some o => exact absurd (Heap.lt_size e) (Nat.lt_irrefl _)
theorem Live.size {O : List Addr} {h : Heap} (x : Live O h) : h.objs.size ∉ O := fun hm => by
  obtain ⟨o, e⟩ := x _ hm
  rw [size_none] at e; cases e

/-- the value is a list of its own, made since h -/
inductive New (h h' : Heap) (O : List Addr) (v : Value) (l : List D) : Prop
  | mk (a : Addr) (vs : Array Value) (n : Nat) (fq : List Addr) (e : v = .ref a) (h0 : h.get? a = none) (z : vs.size ≤ 16777216) (h1 : IsL h' a vs n) (h4 : Rds h' vs.toList l fq) (ha : a ∉ fq) (ho : Off fq O) : New h h' O v l
/-- how an expression ends -/
noncomputable def PostE (s : Shared) (O : List Addr) (d : D) (fr : Bool) (v : Value) (s' : Shared) : Prop :=
  Go s s' ∧ (∃ fp, Rd s'.heap v d fp ∧ Off fp O) ∧ (fr = true → ∀ l, d = .list l → New s.heap s'.heap O v l)

theorem PostE.weak {s s' : Shared} {O : List Addr} {d : D} {v : Value} {fr fr' : Bool} (p : PostE s O d fr v s') (h : fr' = true → fr = true) : PostE s O d fr' v s' := ⟨p.1, p.2.1, fun q => p.2.2 (h q)⟩
theorem PostE.lift {s s₁ s' : Shared} {O : List Addr} {d : D} {v : Value} {fr : Bool} (g : Go s s₁) (p : PostE s₁ O d fr v s') : PostE s O d fr v s' := by
  refine ⟨g.trans p.1, p.2.1, fun q l e => ?_⟩
  obtain ⟨a, vs, n, fq, h1, h2, h3, h4, h5, h6, h7⟩ := p.2.2 q l e
  refine ⟨a, vs, n, fq, h1, ?_, h3, h4, h5, h6, h7⟩
  cases e : s.heap.get? a with
  | none => rfl
  | some o => rw [g.kp a o e] at h2; cases h2
theorem PostE.tok {s s' : Shared} {O : List Addr} {d : D} {v : Value} {fr : Bool} (p : PostE s O d fr v s') (t : Nat) : PostE s O d fr v { s' with toks := t } := ⟨p.1.trans (Go.tok _ _), p.2.1, p.2.2⟩
theorem off_nil {O : List Addr} : Off [] O := fun _ h => nomatch h

theorem post_int {s : Shared} {O : List Addr} {i : Int} {t k : Nat} {fr : Bool} : PostE s O (.int i) fr (.int i t) { s with toks := k } := ⟨Go.tok _ _, ⟨[], .int _ _, off_nil⟩, fun _ _ e => nomatch e⟩
theorem post_str {s : Shared} {O : List Addr} {i : Str} {t k : Nat} {fr : Bool} (z : i.length ≤ 16777216) : PostE s O (.str i) fr (.str i t) { s with toks := k } := ⟨Go.tok _ _, ⟨[], .str _ _ z, off_nil⟩, fun _ _ e => nomatch e⟩
theorem post_bool {s : Shared} {O : List Addr} {b : Bool} {k : Nat} {fr : Bool} : PostE s O (.bool b) fr (.bool b) { s with toks := k } := ⟨Go.tok _ _, ⟨[], .bool _, off_nil⟩, fun _ _ e => nomatch e⟩
theorem post_none {s : Shared} {O : List Addr} {k : Nat} {fr : Bool} : PostE s O .none fr .none { s with toks := k } := ⟨Go.tok _ _, ⟨[], .none, off_nil⟩, fun _ _ e => nomatch e⟩
theorem post_list {s : Shared} {O : List Addr} {vs : Array Value} {l : List D} {fq : List Addr} {n k : Nat} {fr : Bool} (r : Rds s.heap vs.toList l fq) (o : Off fq O) (L : Live O s.heap) (z : vs.size ≤ 16777216) :
    PostE s O (.list l) fr (.ref s.heap.objs.size) { s with heap := s.heap.push { cls := .type "list", dict := none, data := .seq vs n, slots := #[] }, toks := k } := by
  have g : Go s { s with heap := s.heap.push { cls := .type "list", dict := none, data := .seq vs n, slots := #[] }, toks := k } := Go.push _ _ _
  have h1 : IsL (s.heap.push { cls := .type "list", dict := none, data := .seq vs n, slots := #[] }) s.heap.objs.size vs n := Heap.get?_push_size _ rfl
  refine ⟨g, ⟨_, .list z h1 (r.kp g.kp), fun a ha => ?_⟩, fun _ l' e => ?_⟩
  · rcases List.mem_cons.mp ha with rfl | ha
    · exact L.size
    · exact o a ha
  · cases e
    refine ⟨_, vs, n, fq, rfl, size_none _, z, h1, r.kp g.kp, fun hm => ?_, o⟩
    obtain ⟨o, e⟩ := r.live _ hm
    rw [size_none] at e; cases e
theorem post_tuple {s : Shared} {O : List Addr} {vs : Array Value} {l : List D} {fq : List Addr} {n k : Nat} {fr : Bool} (r : Rds s.heap vs.toList l fq) (o : Off fq O) (L : Live O s.heap) (z : vs.size ≤ 16777216) :
    PostE s O (.tuple l) fr (.ref s.heap.objs.size) { s with heap := s.heap.push { cls := .type "tuple", dict := none, data := .seq vs n, slots := #[] }, toks := k } := by
  have g : Go s { s with heap := s.heap.push { cls := .type "tuple", dict := none, data := .seq vs n, slots := #[] }, toks := k } := Go.push _ _ _
  refine ⟨g, ⟨_, .tuple z (Heap.get?_push_size _ rfl) (r.kp g.kp), fun a ha => ?_⟩, fun _ l' e => nomatch e⟩
  rcases List.mem_cons.mp ha with rfl | ha
  · exact L.size
  · exact o a ha
theorem post_old {s : Shared} {O : List Addr} {v : Value} {d : D} {fp : List Addr} {k : Nat} (r : Rd s.heap v d fp) (o : Off fp O) : PostE s O d false v { s with toks := k } := ⟨Go.tok _ _, ⟨fp, r, o⟩, fun e => nomatch e⟩

theorem IsL.isList {h : Heap} {a : Addr} {vs : Array Value} {n : Nat} (x : IsL h a vs n) : h.IsList a vs := ⟨_, x, rfl, _, rfl⟩
theorem IsT.isTup {h : Heap} {a : Addr} {vs : Array Value} {n : Nat} (x : IsT h a vs n) : PyProof.Rows.IsTup h a vs := ⟨_, x, rfl, _, rfl⟩
theorem IsT.isTuple {h : Heap} {a : Addr} {vs : Array Value} {n : Nat} (x : IsT h a vs n) : h.IsTuple a vs := ⟨_, x, rfl, _, rfl⟩

section
variable {prog : Program} {w : World} {A : Around} {E : Value → Shared → Prop} {s : Shared}

theorem s_truthy {v : Value} {d : D} {fp : List Addr} {b : Bool} (r : Rd s.heap v d fp) (h : truth d = some b) :
    wpAny (model prog w) A (truthy v) (fun b' s' => b' = b ∧ Go s s') E s := by
  cases r with
  | none => cases h; exact PyProof.Rows.truthy_none ⟨rfl, Go.refl _⟩
  | bool x => cases h; exact wpAny_truthy_bool ⟨rfl, Go.refl _⟩
  | int i t => cases h; exact P.truthy_int ⟨rfl, Go.refl _⟩
  | str x t z =>
    cases h
    refine P.truthy_str (by omega) ⟨?_, Go.tok _ _⟩
    cases hl : x.length <;> simp <;> omega
  | @list a vs n xs f z h1 h4 =>
    cases h
    have h0 : vs.size = xs.length := by simpa using h4.length
    refine wpAny_truthy_list (IsL.isList h1) (by omega) ⟨?_, Go.tok _ _⟩
    cases xs <;> simp_all
    rintro rfl; simp at h0
  | @tuple a vs n xs f z h1 h4 =>
    cases h
    have h0 : vs.size = xs.length := by simpa using h4.length
    refine PyProof.Rows.truthy_tuple (IsT.isTup h1) (by omega) ⟨?_, Go.tok _ _⟩
    cases xs <;> simp_all
    rintro rfl; simp at h0

theorem sizeL : sizeLine = 16777216 := sizeLine_eq
theorem mul_ok {a b : Int} (h : a.natAbs < 2 ^ 64 ∨ b.natAbs < 2 ^ 64) : IntMulOk a b := by
  rcases h with h | h
  · exact .of_left (intBits_le_64 (by omega) (by omega))
  · exact .of_right (intBits_le_64 (by omega) (by omega))

theorem rep_flat {α : Type} : ∀ (n : Nat) (l : List α), rep n l = (List.replicate n l).flatten
  | 0, _ => rfl
  | n + 1, l => by rw [rep, rep_flat n l, List.replicate_succ, List.flatten_cons]
theorem foldl_app (xs : List (Array Value)) : ∀ acc : Array Value, (List.foldl (fun x1 x2 => x1 ++ x2) acc xs).toList = acc.toList ++ (xs.map Array.toList).flatten := by
  induction xs with
  | nil => intro acc; simp
  | cons x xs ih => intro acc; rw [List.foldl_cons, ih]; simp
theorem Rds.rep {h : Heap} {vs : List Value} {ds : List D} {fp : List Addr} (r : Rds h vs ds fp) : ∀ n, ∃ fq, Rds h (rep n vs) (rep n ds) fq ∧ ∀ b ∈ fq, b ∈ fp
  | 0 => ⟨[], .nil, fun _ hb => nomatch hb⟩
  | n + 1 => by
    obtain ⟨fq, h1, h2⟩ := Rds.rep r n
    refine ⟨_, r.append h1, fun b hb => ?_⟩
    rcases List.mem_append.mp hb with hb | hb
    · exact hb
    · exact h2 b hb
theorem rep_length {α : Type} (l : List α) : ∀ n, (rep n l).length = n * l.length
  | 0 => by simp [rep]
  | n + 1 => by rw [rep, List.length_append, rep_length l n, Nat.succ_mul, Nat.add_comm]
/-- a plain list times an int -/
theorem mul_plain {l : Addr} {items : Array Value} {k : Nat} {x : Int} {u : Tok} {Q : Value → Shared → Prop}
    (hl : IsL s.heap l items k) (h0 : 0 ≤ x) (hhi : x < 2 ^ 63) (hsz : items.size * x.toNat ≤ 2 ^ 24)
    (h : Q (.ref s.heap.objs.size) { s with heap := s.heap.push { cls := .type "list", data := .seq (rep x.toNat items.toList).toArray } }) :
    wpAny (model prog w) A (binaryOp .Mult (.ref l) (.int x u)) Q E s := by
  refine wpAny_binaryOp_repeat_ref (T := "list") (U := "int") (by decide) ⟨_, hl, rfl⟩ (fun s' => typeIs_int s' x u) noFill_list_mul F.fills_int_mul F.slot_int_rmul repeat_list F.slot_int_index.lookup
    (call_meets F.slot_int_rmul (typeIs_int s x u) F.entry_int_rmul (F.args_int_rmul_2 _ _) (int___rmul___int_list x u l items k)
      ⟨hl, rfl, ⟨_, hl, rfl⟩, call_meets F.slot_list_mul ⟨_, hl, rfl⟩ F.entry_list_mul (F.args_list_mul_2 _ _)
        (AutoListH.list___mul___list_int_3 l items k x u (by simp [Builtin.List.listFitsIndex]; omega) (by omega) (by simp [Builtin.List.listTooLong, sizeLine]; omega))
        ⟨hl, ?_⟩⟩)
  have e : List.foldl (fun x1 x2 => x1 ++ x2) #[] (List.replicate (if items.isEmpty = true then 0 else x.toNat) items) = (rep x.toNat items.toList).toArray := by
    apply Array.ext'
    rw [foldl_app, rep_flat]
    split
    · rename_i he
      have : items = #[] := by simpa using he
      subst this
      simp
    · simp
  rw [e]
  exact h

theorem s_bin {o : Operator} {op : BOp} {a b : Value} {x y d : D} {f1 f2 O : List Addr} (ho : bop? o = some op) (h : binop op x y = some d) (ra : Rd s.heap a x f1) (rb : Rd s.heap b y f2)
    (o1 : Off f1 O) (o2 : Off f2 O) (L : Live O s.heap) : wpAny (model prog w) A (binaryOp o a b) (PostE s O d true) E s := by
  rw [bop_is ho]
  cases op with
  | add =>
    cases x with
    | int i =>
      obtain ⟨j, hj, h⟩ := bnd h
      cases int?_is hj; cases Option.some.inj h
      obtain ⟨t, rfl⟩ := ra.int_is
      obtain ⟨u, rfl⟩ := rb.int_is
      exact P.add_int post_int
    | str i =>
      obtain ⟨j, hj, h⟩ := bnd h
      cases str?_is hj
      obtain ⟨hz, rfl⟩ := itd h
      obtain ⟨t, rfl, zi⟩ := ra.str_is
      obtain ⟨u, rfl, zj⟩ := rb.str_is
      exact SB.add (fun t' k => post_str (by rw [strLen_append]; exact hz)) (by rw [sizeL]; exact hz)
    | list xs =>
      obtain ⟨ys, hj, h⟩ := bnd h
      cases list?_is hj
      obtain ⟨hz, rfl⟩ := itd h
      obtain ⟨a1, vs, n, g, rfl, rfl, z, h1, h4⟩ := ra.list_is
      obtain ⟨a2, vs2, n2, g2, rfl, rfl, z2, k1, k4⟩ := rb.list_is
      have e1 : vs.size = xs.length := by simpa using h4.length
      have e2 : vs2.size = ys.length := by simpa using k4.length
      refine P.add_list h1 k1 ?_ (by rw [sizeL]; omega)
      exact post_list (vs := vs ++ vs2) (k := s.toks) (by simpa using h4.append k4) (fun c hc => by
        rcases List.mem_append.mp hc with hc | hc
        · exact o1 c (List.mem_cons_of_mem _ hc)
        · exact o2 c (List.mem_cons_of_mem _ hc)) L (by rw [Array.size_append]; omega)
    | _ => exact no h
  | sub =>
    obtain ⟨i, hi, h⟩ := bnd h
    obtain ⟨j, hj, h⟩ := bnd h
    cases int?_is hi; cases int?_is hj; cases Option.some.inj h
    obtain ⟨t, rfl⟩ := ra.int_is
    obtain ⟨u, rfl⟩ := rb.int_is
    exact P.sub_int post_int
  | mul =>
    obtain ⟨j, hj, h⟩ := bnd h
    cases int?_is hj
    obtain ⟨u, rfl⟩ := rb.int_is
    cases x with
    | int i =>
      obtain ⟨hz, rfl⟩ := itd h
      obtain ⟨t, rfl⟩ := ra.int_is
      exact P.mul_int post_int (mul_ok hz)
    | str i =>
      obtain ⟨⟨h0, h1⟩, rfl⟩ := itd h
      obtain ⟨t, rfl, zi⟩ := ra.str_is
      have hj : j = 0 ∨ j = 1 := by omega
      refine SB.mul ?_ fun t' k => ?_
      · rcases hj with rfl | rfl
        · exact ⟨by decide, fun h => absurd (by decide) h, fun h => absurd (by decide) h⟩
        · exact ⟨by decide, fun _ h => by simp at h, fun _ h => by simp at h⟩
      · have e : Txt.mul i j = (if j = 0 then mkS [] else i) := by
          rcases hj with rfl | rfl
          · rfl
          · simp [Txt.mul]
        rw [e]
        refine post_str ?_
        split
        · exact Nat.zero_le _
        · exact zi
    | list xs =>
      obtain ⟨⟨hj0, hj1, hz⟩, rfl⟩ := itd h
      obtain ⟨a1, vs, n, g, rfl, rfl, z, h1, h4⟩ := ra.list_is
      have e1 : vs.size = xs.length := by simpa using h4.length
      obtain ⟨fq, q1, q2⟩ := Rds.rep h4 j.toNat
      have hb : vs.size * j.toNat ≤ 1000 * 1000 := Nat.mul_le_mul (by omega) (by omega)
      refine mul_plain h1 hj0 (by omega) (by omega) ?_
      exact post_list (vs := (rep j.toNat vs.toList).toArray) (k := s.toks) (by simpa using q1) (fun c hc => o1 c (List.mem_cons_of_mem _ (q2 c hc))) L (by
        rw [List.size_toArray, rep_length, Array.length_toList, Nat.mul_comm]; omega)
    | _ => exact no h
  | div =>
    obtain ⟨i, hi, h⟩ := bnd h
    obtain ⟨j, hj, h⟩ := bnd h
    cases int?_is hi; cases int?_is hj
    obtain ⟨⟨hz, hz'⟩, rfl⟩ := itd h
    obtain ⟨t, rfl⟩ := ra.int_is
    obtain ⟨u, rfl⟩ := rb.int_is
    exact AutoIntOps.floordiv_1 (by simpa using hz) (by rw [PyProof.noPylong_small hz']; exact Bool.false_ne_true) post_int
  | mod =>
    obtain ⟨i, hi, h⟩ := bnd h
    obtain ⟨j, hj, h⟩ := bnd h
    cases int?_is hi; cases int?_is hj
    obtain ⟨hz, rfl⟩ := itd h
    obtain ⟨t, rfl⟩ := ra.int_is
    obtain ⟨u, rfl⟩ := rb.int_is
    exact AutoIntOps.mod_1 (by simpa using hz) post_int
  | pow =>
    obtain ⟨i, hi, h⟩ := bnd h
    obtain ⟨j, hj, h⟩ := bnd h
    cases int?_is hi; cases int?_is hj
    obtain ⟨⟨rfl, h0, h1⟩, rfl⟩ := itd h
    obtain ⟨t, rfl⟩ := ra.int_is
    obtain ⟨u, rfl⟩ := rb.int_is
    by_cases hj : j = 0
    · subst hj
      exact AutoIntOps.pow_0 (by decide) (by decide) post_int
    · refine AutoIntOps.pow_4 h0 (by simpa using hj) (by decide) (by decide) ?_ post_int
      have : Builtin.Int.intBits 2 = 2 := by decide +kernel
      rw [this]
      unfold Builtin.Int.intTooBig bitsLine
      simp
      omega

theorem pairsAt {A : Around} {n : Nat} (hin : A.units + 1 + n < cLine) {vs ws : Array Value} {xs ys : List D} {fp fq : List Addr} (r1 : Rds s.heap vs.toList xs fp) (r2 : Rds s.heap ws.toList ys fq)
    (o1 : ∀ x ∈ xs, okN n x = true) (o2 : ∀ y ∈ ys, okN n y = true) : ∀ j (j1 : j < vs.size) (j2 : j < ws.size), EqAt A.in1 s vs[j] ws[j] (pairEq xs ys j) := by
  intro j j1 j2
  have l1 : j < xs.length := by have := r1.length; simp at this; omega
  have l2 : j < ys.length := by have := r2.length; simp at this; omega
  obtain ⟨v, f1, e1, q1, _⟩ := r1.get (j := j) (d := xs[j]) (by simp [l1])
  obtain ⟨u, f2, e2, q2, _⟩ := r2.get (j := j) (d := ys[j]) (by simp [l2])
  have e1' : v = vs[j] := by
    have : vs.toList[j]? = some vs[j] := by simp [j1]
    rw [this] at e1; cases e1; rfl
  have e2' : u = ws[j] := by
    have : ws.toList[j]? = some ws[j] := by simp [j2]
    rw [this] at e2; cases e2; rfl
  subst e1' e2'
  have := eqAtN n A.in1 s q1 q2 (o1 _ (List.getElem_mem ..)) (o2 _ (List.getElem_mem ..)) hin
  show EqAt A.in1 s _ _ (PyData.eqv (xs.getD j .none) (ys.getD j .none))
  simpa [List.getD, l1, l2] using this

theorem s_eq {a b : Value} {x y : D} {f1 f2 : List Addr} (ra : Rd s.heap a x f1) (rb : Rd s.heap b y f2) (hk : kin x y = true) (hx : okN 6 x = true) (hy : okN 6 y = true) (hu : A.units + 6 < cLine) :
    RcAt A s a b (PyData.eqv x y) := by
  have hu' : A.units < cLine := by omega
  cases ra with
  | none => cases rb <;> exact noB hk
  | bool i => cases rb with
    | bool j => exact RcAt.bool_bool i j
    | _ => exact noB hk
  | int i t => cases rb with
    | int j u => exact RcAt.int_int i t j u
    | _ => exact noB hk
  | str i t zi => cases rb with
    | str j u zj => exact RcAt.str_str i t j u
    | _ => exact noB hk
  | @list a1 vs n xs g z h1 h4 => cases rb with
    | @list a2 ws n2 ys g2 z2 k1 k4 =>
      have n1 : vs.size = xs.length := by simpa using h4.length
      have n2 : ws.size = ys.length := by simpa using k4.length
      have oa : ∀ x ∈ xs, okN 5 x = true := by simpa [okN] using hx
      have ob : ∀ x ∈ ys, okN 5 x = true := by simpa [okN] using hy
      show RcAt A s _ _ (PyData.eqvAll xs ys)
      by_cases hsz : vs.size = ws.size
      · rw [← eqvAll_same_length (by omega : xs.length = ys.length), ← n1]
        exact RcAt.lists (IsL.isList h1) (IsL.isList k1) hsz hu' (pairsAt (by omega) h4 k4 oa ob)
      · rw [eqvAll_other_length (by omega : xs.length ≠ ys.length)]
        exact RcAt.lists_lengths (IsL.isList h1) (IsL.isList k1) (by simpa using hsz) hu'
    | _ => exact noB hk
  | @tuple a1 vs n xs g z h1 h4 => cases rb with
    | @tuple a2 ws n2 ys g2 z2 k1 k4 =>
      have n1 : vs.size = xs.length := by simpa using h4.length
      have n2 : ws.size = ys.length := by simpa using k4.length
      have oa : ∀ x ∈ xs, okN 5 x = true := by simpa [okN] using hx
      have ob : ∀ x ∈ ys, okN 5 x = true := by simpa [okN] using hy
      show RcAt A s _ _ (PyData.eqvAll xs ys)
      rw [← eqvAll_eq xs ys, ← n1, ← n2]
      exact RcAt.tuples (IsT.isTuple h1) (IsT.isTuple k1) hu' (pairsAt (by omega) h4 k4 oa ob)
    | _ => exact noB hk
theorem s_ne {a b : Value} {x y : D} {f1 f2 : List Addr} (ra : Rd s.heap a x f1) (rb : Rd s.heap b y f2) (hk : kin x y = true) (hx : okN 6 x = true) (hy : okN 6 y = true) (hu : A.units + 6 < cLine) :
    RcNeAt A s a b (!PyData.eqv x y) := by
  have hu' : A.units < cLine := by omega
  cases ra with
  | none => cases rb <;> exact noB hk
  | bool i => cases rb with
    | bool j => exact RcNeAt.bool_bool i j
    | _ => exact noB hk
  | int i t => cases rb with
    | int j u => exact RcNeAt.int_int i t j u
    | _ => exact noB hk
  | str i t zi => cases rb with
    | str j u zj => exact RcNeAt.str_str i t j u
    | _ => exact noB hk
  | @list a1 vs n xs g z h1 h4 => cases rb with
    | @list a2 ws n2 ys g2 z2 k1 k4 =>
      have n1 : vs.size = xs.length := by simpa using h4.length
      have n2 : ws.size = ys.length := by simpa using k4.length
      have oa : ∀ x ∈ xs, okN 5 x = true := by simpa [okN] using hx
      have ob : ∀ x ∈ ys, okN 5 x = true := by simpa [okN] using hy
      show RcNeAt A s _ _ (!PyData.eqvAll xs ys)
      by_cases hsz : vs.size = ws.size
      · rw [← eqvAll_same_length (by omega : xs.length = ys.length), ← n1]
        exact RcNeAt.lists (IsL.isList h1) (IsL.isList k1) hsz hu' (pairsAt (by omega) h4 k4 oa ob)
      · rw [eqvAll_other_length (by omega : xs.length ≠ ys.length)]
        exact RcNeAt.lists_lengths (IsL.isList h1) (IsL.isList k1) (by simpa using hsz) hu'
    | _ => exact noB hk
  | @tuple a1 vs n xs g z h1 h4 => cases rb with
    | @tuple a2 ws n2 ys g2 z2 k1 k4 =>
      have n1 : vs.size = xs.length := by simpa using h4.length
      have n2 : ws.size = ys.length := by simpa using k4.length
      have oa : ∀ x ∈ xs, okN 5 x = true := by simpa [okN] using hx
      have ob : ∀ x ∈ ys, okN 5 x = true := by simpa [okN] using hy
      show RcNeAt A s _ _ (!PyData.eqvAll xs ys)
      rw [← eqvAll_eq xs ys, ← n1, ← n2]
      exact RcNeAt.tuples (IsT.isTuple h1) (IsT.isTuple k1) hu' (pairsAt (by omega) h4 k4 oa ob)
    | _ => exact noB hk

/-- what an item is worth, by the heap -/
noncomputable def rdOf (h : Heap) (v : Value) : D := open Classical in if hx : ∃ d fp, Rd h v d fp then hx.choose else .none
theorem rdOf_eq {h : Heap} {v : Value} {d : D} {fp : List Addr} (r : Rd h v d fp) : rdOf h v = d := by
  have hx : ∃ d fp, Rd h v d fp := ⟨d, fp, r⟩
  unfold rdOf
  rw [dif_pos hx]
  obtain ⟨fp', r'⟩ := hx.choose_spec
  exact r'.unique r
theorem rds_map {h : Heap} : ∀ {vs : List Value} {ds : List D} {fp : List Addr}, Rds h vs ds fp → vs.map (rdOf h) = ds
  | _, _, _, .nil => rfl
  | _, _, _, .cons r rs => by rw [List.map_cons, rdOf_eq r, rds_map rs]
theorem rds_mem {h : Heap} : ∀ {vs : List Value} {ds : List D} {fp : List Addr}, Rds h vs ds fp → ∀ v ∈ vs, ∃ d fq, d ∈ ds ∧ Rd h v d fq
  | _, _, _, .nil, v, hv => nomatch hv
  | _, _, _, .cons r rs, v, hv => by
    rcases List.mem_cons.mp hv with rfl | hv
    · exact ⟨_, _, List.mem_cons_self .., r⟩
    · obtain ⟨d, fq, h1, h2⟩ := rds_mem rs v hv
      exact ⟨d, fq, List.mem_cons_of_mem _ h1, h2⟩
theorem itemsAt {A : Around} {vs : Array Value} {ds : List D} {fp fq : List Addr} {v : Value} {x : D} (r : Rds s.heap vs.toList ds fp) (rx : Rd s.heap v x fq) (hd : ∀ d ∈ ds, okN 5 d = true) (hx : okN 6 x = true) (hu : A.units + 8 < cLine) :
    ∀ y, y ∈ vs → EqAt A.in1 s y v (PyData.eqv (rdOf s.heap y) x) := fun y hy => by
  obtain ⟨d, fr, hm, q⟩ := rds_mem r y (by simpa using hy)
  rw [rdOf_eq q]
  exact eqAtN 6 A.in1 s q rx (okN_mono (by omega) (hd d hm)) hx (by show A.units + 1 + 6 < cLine; omega)
theorem any_rd {vs : Array Value} {ds : List D} {fp : List Addr} {h : Heap} {x : D} (r : Rds h vs.toList ds fp) : vs.any (fun y => PyData.eqv (rdOf h y) x) = ds.any fun y => PyData.eqv y x := by
  rw [← rds_map r, List.any_map, ← Array.any_toList]
  rfl

theorem s_in {c v : Value} {dc x : D} {f1 f2 : List Addr} {b : Bool} (h : contains dc x = some b) (rc : Rd s.heap c dc f1) (rx : Rd s.heap v x f2) (hu : A.units + 8 < cLine) {Q : Value → Shared → Prop} (hq : Q (.bool b) s) :
    wpAny (model prog w) A (compareOp .In v c) Q E s := by
  cases rc with
  | str i t zi => cases rx with
    | str j u zj => cases h; exact SB.contains hq
    | _ => exact no h
  | @list a1 vs n xs g z h1 h4 =>
    obtain ⟨hh, rfl⟩ := itd h
    obtain ⟨o1, o2⟩ := an hh
    exact in_listAt _ (IsL.isList h1) (itemsAt h4 rx (by simpa [okN] using o1) o2 hu) (by rw [any_rd h4]; exact hq)
  | @tuple a1 vs n xs g z h1 h4 =>
    obtain ⟨hh, rfl⟩ := itd h
    obtain ⟨o1, o2⟩ := an hh
    exact in_tupleAt _ (IsT.isTuple h1) (itemsAt h4 rx (by simpa [okN] using o1) o2 hu) (by rw [any_rd h4]; exact hq)
  | _ => exact no h
theorem s_notin {c v : Value} {dc x : D} {f1 f2 : List Addr} {b : Bool} (h : contains dc x = some b) (rc : Rd s.heap c dc f1) (rx : Rd s.heap v x f2) (hu : A.units + 8 < cLine) {Q : Value → Shared → Prop} (hq : Q (.bool (!b)) s) :
    wpAny (model prog w) A (compareOp .NotIn v c) Q E s := by
  cases rc with
  | str i t zi => cases rx with
    | str j u zj => cases h; exact SB.notContains hq
    | _ => exact no h
  | @list a1 vs n xs g z h1 h4 =>
    obtain ⟨hh, rfl⟩ := itd h
    obtain ⟨o1, o2⟩ := an hh
    exact notIn_listAt _ (IsL.isList h1) (itemsAt h4 rx (by simpa [okN] using o1) o2 hu) (by rw [any_rd h4]; exact hq)
  | @tuple a1 vs n xs g z h1 h4 =>
    obtain ⟨hh, rfl⟩ := itd h
    obtain ⟨o1, o2⟩ := an hh
    exact notIn_tupleAt _ (IsT.isTuple h1) (itemsAt h4 rx (by simpa [okN] using o1) o2 hu) (by rw [any_rd h4]; exact hq)
  | _ => exact no h

theorem s_cmp {o : CmpOp} {op : COp} {a b : Value} {x y : D} {f1 f2 : List Addr} {r : Bool} (ho : cop? o = some op) (h : cmpop op x y = some r) (ra : Rd s.heap a x f1) (rb : Rd s.heap b y f2)
    (hu : A.units + 8 < cLine) {Q : Value → Shared → Prop} (hq : Q (.bool r) s) : wpAny (model prog w) A (compareOp o a b) Q E s := by
  rw [cop_is ho]
  cases op with
  | eq =>
    obtain ⟨hh, rfl⟩ := itd h
    obtain ⟨hh, o2⟩ := an hh
    obtain ⟨hk, o1⟩ := an hh
    exact s_eq ra rb hk o1 o2 (by omega) prog w E Q hq
  | ne =>
    obtain ⟨hh, rfl⟩ := itd h
    obtain ⟨hh, o2⟩ := an hh
    obtain ⟨hk, o1⟩ := an hh
    exact s_ne ra rb hk o1 o2 (by omega) prog w E Q hq
  | lt =>
    cases x with
    | int i =>
      obtain ⟨j, hj, h⟩ := bnd h
      cases int?_is hj; cases Option.some.inj h
      obtain ⟨t, rfl⟩ := ra.int_is
      obtain ⟨u, rfl⟩ := rb.int_is
      exact P.lt_int hq
    | str i =>
      obtain ⟨j, hj, h⟩ := bnd h
      cases str?_is hj; cases Option.some.inj h
      obtain ⟨t, rfl, _⟩ := ra.str_is
      obtain ⟨u, rfl, _⟩ := rb.str_is
      exact P.lt_str hq
    | _ => exact no h
  | le =>
    cases x with
    | int i =>
      obtain ⟨j, hj, h⟩ := bnd h
      cases int?_is hj; cases Option.some.inj h
      obtain ⟨t, rfl⟩ := ra.int_is
      obtain ⟨u, rfl⟩ := rb.int_is
      exact P.le_int hq
    | str i =>
      obtain ⟨j, hj, h⟩ := bnd h
      cases str?_is hj; cases Option.some.inj h
      obtain ⟨t, rfl, _⟩ := ra.str_is
      obtain ⟨u, rfl, _⟩ := rb.str_is
      exact P.le_str hq
    | _ => exact no h
  | gt =>
    obtain ⟨i, hi, h⟩ := bnd h
    obtain ⟨j, hj, h⟩ := bnd h
    cases int?_is hi; cases int?_is hj; cases Option.some.inj h
    obtain ⟨t, rfl⟩ := ra.int_is
    obtain ⟨u, rfl⟩ := rb.int_is
    exact P.gt_int hq
  | ge =>
    obtain ⟨i, hi, h⟩ := bnd h
    obtain ⟨j, hj, h⟩ := bnd h
    cases int?_is hi; cases int?_is hj; cases Option.some.inj h
    obtain ⟨t, rfl⟩ := ra.int_is
    obtain ⟨u, rfl⟩ := rb.int_is
    exact P.ge_int hq
  | isin => exact s_in h rb ra hu hq
  | notin =>
    obtain ⟨b', h', rfl⟩ := mpd h
    exact s_notin h' rb ra hu hq
end
end Mine
namespace Mine
open PySem PySem.SeqAt PyProof.Rows

theorem clip_le (n : Nat) (i : Int) : clip n i ≤ n := by unfold clip; omega
theorem cut_eq {α : Type} (l : List α) (lo hi : Option Int) : cut l lo hi = (l.drop (lo.elim 0 (clipAt l.length))).take (hi.elim l.length (clipAt l.length) - lo.elim 0 (clipAt l.length)) := rfl
theorem cut_length_le {α : Type} (l : List α) (lo hi : Option Int) : (cut l lo hi).length ≤ l.length := by
  unfold cut; rw [List.length_take, List.length_drop]; omega

theorem sidx (lo hi : Option Int) (n : Nat) : Builtin.Str.strSliceIndices lo hi 1 n = sliceRange ((lo.elim 0 (clipAt n) : Nat) : Int) ((hi.elim n (clipAt n) : Nat) : Int) 1 := by
  unfold Builtin.Str.strSliceIndices
  cases lo <;> cases hi <;> simp [clipAt_cast]
theorem str_cut (x : Str) (lo hi : Option Int) : (Builtin.Str.strSliceIndices lo hi 1 x.length).filterMap (x.cps[·]?) = cut x.cps.toList lo hi := by
  rw [sidx, sliceRange_one, pick_run, cut_eq]
  simp [Str.length]
theorem sidx_length (x : Str) (lo hi : Option Int) : (Builtin.Str.strSliceIndices lo hi 1 x.length).length = (cut x.cps.toList lo hi).length := by
  rw [sidx, sliceRange_one, cut_eq]
  simp [Str.length]
  have h : ∀ i, clipAt x.cps.size i ≤ x.cps.size := fun i => clip_le _ _
  cases lo <;> cases hi <;> simp
  · rename_i j; have := h j; omega
  · rename_i i j; have := h j; omega
theorem cut_whole {α : Type} (l : List α) (lo hi : Option Int) (h : (cut l lo hi).length = l.length) : cut l lo hi = l := by
  unfold cut at h ⊢
  rw [List.length_take, List.length_drop] at h
  by_cases hl : l.length = 0
  · rw [List.length_eq_zero_iff.mp hl]; simp
  · have h0 : lo.elim 0 (clip l.length) = 0 := by omega
    rw [h0] at h ⊢
    rw [List.drop_zero]
    exact List.take_of_length_le (by omega)

theorem mkS_cps (x : Str) : mkS x.cps.toList = x := by cases x; simp [mkS]

section
variable {prog : Program} {w : World} {A : Around} {E : Value → Shared → Prop} {s : Shared}

/-- a slice's bound, as it lies in the slice object -/
inductive PartV : Value → D → Option Int → Option (Int × Tok) → Prop
  | none : PartV .none .none none none
  | int (i t) : PartV (.int i t) (.int i) (some i) (some (i, t))
theorem partV {v : Value} {d : D} {fp : List Addr} {o : Option Int} (r : Rd s.heap v d fp) (h : part? d = some o) : ∃ p, PartV v d o p := by
  cases r <;> simp [part?] at h
  · subst h; exact ⟨_, .none⟩
  · subst h; exact ⟨_, .int _ _⟩
theorem PartV.part {v : Value} {d : D} {o : Option Int} {p : Option (Int × Tok)} (h : PartV v d o p) : IsPart v o := by
  cases h
  · exact .none
  · exact .int _ _
theorem PartV.val {v : Value} {d : D} {o : Option Int} {p : Option (Int × Tok)} (h : PartV v d o p) : v = partValue p ∧ o = p.map (·.1) := by
  cases h <;> exact ⟨rfl, rfl⟩

/-- a[lo:hi] -/
theorem s_slice {value : Expr} {le he : Option Expr} {p : Pos} {o vl vu : Value} {x y z d : D} {f1 f2 f3 O : List Addr} (h : slice x y z = some d) (ra : Rd s.heap o x f1) (rl : Rd s.heap vl y f2) (rh : Rd s.heap vu z f3)
    (o1 : Off f1 O) (L : Live O s.heap) :
    wpAny (model prog w) A (subscriptTail value (.Slice le he none p) o (.ref s.heap.objs.size)) (PostE s O d true) E { s with heap := s.heap.push { cls := .type "slice", data := .fields #[vl, vu, .none] } } := by
  unfold slice at h
  cases hy : part? y with
  | none => rw [hy] at h; simp at h
  | some a =>
    cases hz : part? z with
    | none => rw [hy, hz] at h; simp at h
    | some b =>
      rw [hy, hz] at h
      obtain ⟨pa, pa'⟩ := partV rl hy
      obtain ⟨pb, pb'⟩ := partV rh hz
      cases ra with
      | str i t zi =>
        simp only [Option.some.injEq] at h
        subst h
        refine tail_any (typeIs_str _ i t) F.slot_str_getitem.lookup ?_ rfl
        refine wpAny_getItem_str_slice (l := pa) (u := pb) (st := none) ⟨_, Heap.get?_push_size _ rfl, rfl, ?_⟩ rfl ?_
        · rw [pa'.val.1, pb'.val.1]; rfl
        · have ec : (slicePicked i pa pb none).filterMap (i.cps[·]?) = cut i.cps.toList a b := by
            rw [← str_cut, pa'.val.2, pb'.val.2]; rfl
          have el : (slicePicked i pa pb none).length = (cut i.cps.toList a b).length := by
            rw [← sidx_length, pa'.val.2, pb'.val.2]; rfl
          have hle := cut_length_le i.cps.toList a b
          have zl : (mkS (cut i.cps.toList a b)).length ≤ 16777216 := by
            show (cut i.cps.toList a b).toArray.size ≤ _
            have : i.cps.toList.length = i.length := by simp [Str.length]
            rw [List.size_toArray]; omega
          unfold sliceMade
          split
          · rename_i hc
            have hc' : (cut i.cps.toList a b).length = i.cps.toList.length := by
              have := (Bool.and_eq_true_iff.mp hc).2
              rw [beq_iff_eq, el] at this
              simpa [Str.length] using this
            have ew := cut_whole _ _ _ hc'
            rw [ew, mkS_cps]
            show PostE s O _ _ _ _
            exact PostE.lift (Go.push s _ s.toks) (post_str (k := s.toks) zi)
          · show _ ∧ _
            rw [ec]
            refine ⟨by rw [sizeL]; exact zl, ?_⟩
            exact PostE.lift (Go.push s _ s.toks) (post_str zl)
      | @list a1 vs n xs g zz h1 h4 =>
        simp only [Option.some.injEq] at h
        subst h
        have hl : (s.heap.push { cls := .type "slice", data := .fields #[vl, vu, .none] }).IsList a1 vs := (IsL.isList h1).push _
        refine tail_any (Heap.IsList.typeIs (s := { s with heap := s.heap.push { cls := .type "slice", data := .fields #[vl, vu, .none] } }) hl) list_getitem_lookup
          (wpAny_getItem_list_slice hl (Heap.IsSliceOf.new ..) pa'.part pb'.part .none (by simp) ?_ (by rw [sizeL]; exact zz)) rfl
        have hk : KP s.heap (s.heap.push { cls := .type "slice", data := .fields #[vl, vu, .none] }) := (Go.push s _ s.toks).kp
        have n1 : vs.size = xs.length := by simpa using h4.length
        obtain ⟨g1, q1, q2⟩ := h4.drop (a.elim 0 (clip xs.length))
        obtain ⟨g2, q3, q4⟩ := q1.take (b.elim xs.length (clip xs.length) - a.elim 0 (clip xs.length))
        rw [slicePick_plain]
        refine PostE.lift (Go.push s _ s.toks) (post_list (s := { s with heap := s.heap.push { cls := .type "slice", data := .fields #[vl, vu, .none] } }) (k := s.toks) (fq := g2) ?_ (fun c hc => o1 c (List.mem_cons_of_mem _ (q2 c (q4 c hc)))) (L.kp hk) ?_)
        · rw [List.toList_toArray, n1]
          exact q3.kp hk
        · have : ((vs.toList.drop (a.elim 0 (clipAt vs.size))).take (b.elim vs.size (clipAt vs.size) - a.elim 0 (clipAt vs.size))).length ≤ vs.size := by
            rw [List.length_take, List.length_drop, Array.length_toList]; omega
          rw [List.size_toArray]; omega
      | _ => simp at h

theorem range_rev {α : Type} : ∀ l : List α, (List.range l.length).filterMap (fun k => l[l.length - 1 - k]?) = l.reverse
  | [] => rfl
  | a :: t => by
    rw [List.length_cons, List.range_succ, List.filterMap_append, List.reverse_cons, ← range_rev t]
    congr 1
    · have : ∀ (r : List Nat), (∀ k ∈ r, k < t.length) → r.filterMap (fun k => (a :: t)[t.length + 1 - 1 - k]?) = r.filterMap (fun k => t[t.length - 1 - k]?) := by
        intro r
        induction r with
        | nil => intro _; rfl
        | cons k r ih =>
          intro hr
          have hk := hr k (List.mem_cons_self ..)
          have e : t.length + 1 - 1 - k = (t.length - 1 - k) + 1 := by omega
          rw [List.filterMap_cons, List.filterMap_cons, ih fun j hj => hr j (List.mem_cons_of_mem _ hj), e, List.getElem?_cons_succ]
      exact this _ fun k hk => List.mem_range.mp hk
    · simp
theorem back_range (n : Nat) : sliceRange ((n : Int) - 1) (-1) (-1) = (List.range n).map fun k => n - 1 - k := by
  unfold sliceRange
  have h1 : ¬ ((-1 : Int) > 0) := by decide
  simp only [h1, if_false]
  cases n with
  | zero => rfl
  | succ n =>
    have h2 : (((n + 1 : Nat) : Int) - 1 > -1) := by omega
    rw [if_pos h2]
    have h3 : ((((n + 1 : Nat) : Int) - 1 - -1 - -1 - 1) / (- -1)).toNat = n + 1 := by
      have : (- -1 : Int) = 1 := rfl
      rw [this, Int.ediv_one]; omega
    rw [h3]
    refine List.map_congr_left fun k hk => ?_
    have := List.mem_range.mp hk
    omega
theorem str_rev (x : Str) : (Builtin.Str.strSliceIndices none none (-1) x.length).filterMap (x.cps[·]?) = x.cps.toList.reverse := by
  have : Builtin.Str.strSliceIndices none none (-1) x.length = sliceRange ((x.length : Int) - 1) (-1) (-1) := rfl
  rw [this, back_range, List.filterMap_map, ← range_rev]
  simp [Str.length, Function.comp_def]
theorem list_rev (items : Array Value) : slicePick items none none (some (-1)) = items.toList.reverse.toArray := by
  unfold slicePick
  have : sliceBounds none none (some (-1)) items.size = ((items.size : Int) - 1, -1, -1) := rfl
  rw [this, back_range, List.filterMap_map, ← range_rev]
  simp [Function.comp_def]

/-- a[::-1] -/
theorem s_rev {value : Expr} {st : Expr} {p : Pos} {o : Value} {t : Tok} {x d : D} {f1 O : List Addr} (h : revd x = some d) (ra : Rd s.heap o x f1) (o1 : Off f1 O) (L : Live O s.heap) :
    wpAny (model prog w) A (subscriptTail value (.Slice none none (some st) p) o (.ref s.heap.objs.size)) (PostE s O d true) E { s with heap := s.heap.push { cls := .type "slice", data := .fields #[.none, .none, .int (-1) t] } } := by
  cases ra with
  | str i u zi =>
    simp only [revd, Option.some.injEq] at h
    subst h
    refine tail_any (typeIs_str _ i u) F.slot_str_getitem.lookup ?_ rfl
    refine wpAny_getItem_str_slice (l := none) (u := none) (st := some (-1, t)) ⟨_, Heap.get?_push_size _ rfl, rfl, rfl⟩ rfl ?_
    have zl : (mkS i.cps.toList.reverse).length ≤ 16777216 := by
      show i.cps.toList.reverse.toArray.size ≤ _
      have : i.cps.toList.length = i.length := by simp [Str.length]
      rw [List.size_toArray, List.length_reverse]; omega
    have ec : (slicePicked i none none (some (-1, t))).filterMap (i.cps[·]?) = i.cps.toList.reverse := by rw [← str_rev]; rfl
    have e1 : sliceMade i u none none (some (-1, t)) = .str ⟨((slicePicked i none none (some (-1, t))).filterMap (i.cps[·]?)).toArray⟩ := by
      unfold sliceMade
      rw [if_neg (by simp)]
    rw [e1, ec]
    refine ⟨by rw [sizeL]; exact zl, ?_⟩
    exact PostE.lift (Go.push s _ s.toks) (post_str zl)
  | @list a1 vs n xs g zz h1 h4 =>
    simp only [revd, Option.some.injEq] at h
    subst h
    have hl : (s.heap.push { cls := .type "slice", data := .fields #[.none, .none, .int (-1) t] }).IsList a1 vs := (IsL.isList h1).push _
    refine tail_any (Heap.IsList.typeIs (s := { s with heap := s.heap.push { cls := .type "slice", data := .fields #[.none, .none, .int (-1) t] } }) hl) list_getitem_lookup
      (wpAny_getItem_list_slice (lo := none) (hi := none) (st := some (-1)) hl (Heap.IsSliceOf.new ..) .none .none (.int _ _) (by simp) ?_ (by rw [sizeL]; exact zz)) rfl
    have hk : KP s.heap (s.heap.push { cls := .type "slice", data := .fields #[.none, .none, .int (-1) t] }) := (Go.push s _ s.toks).kp
    obtain ⟨g1, q1, q2⟩ := h4.reverse
    rw [list_rev]
    refine PostE.lift (Go.push s _ s.toks) (post_list (s := { s with heap := s.heap.push { cls := .type "slice", data := .fields #[.none, .none, .int (-1) t] } }) (k := s.toks) (fq := g1) ?_ (fun c hc => o1 c (List.mem_cons_of_mem _ (q2 c hc))) (L.kp hk) ?_)
    · rw [List.toList_toArray]
      exact q1.kp hk
    · rw [List.size_toArray, List.length_reverse, Array.length_toList]; exact zz
  | _ => exact no h

theorem at_seq {α : Type} {l : List α} {i : Int} {x : α} (h : at? l i = some x) : ∃ j, seqIndex? i l.length = some j ∧ l[j]? = some x := by
  unfold at? at h
  split at h
  · rename_i h0
    have hlt := (List.getElem?_eq_some_iff.mp h).1
    refine ⟨i.toNat, ?_, h⟩
    have e : (if i < 0 then i + (l.length : Int) else i) = i := if_neg (by omega)
    show (if (decide (0 ≤ (if i < 0 then i + (l.length : Int) else i)) && decide ((if i < 0 then i + (l.length : Int) else i) < l.length)) = true then _ else _) = _
    rw [e, if_pos (by simp; omega)]
  · split at h
    · rename_i h0 h1
      have hlt := (List.getElem?_eq_some_iff.mp h).1
      refine ⟨(i + l.length).toNat, ?_, h⟩
      have e : (if i < 0 then i + (l.length : Int) else i) = i + l.length := if_pos (by omega)
      show (if (decide (0 ≤ (if i < 0 then i + (l.length : Int) else i)) && decide ((if i < 0 then i + (l.length : Int) else i) < l.length)) = true then _ else _) = _
      rw [e, if_pos (by simp; omega)]
    · cases h

/-- a[i], the item itself -/
theorem s_getItem {o vi : Value} {x y d : D} {f1 f2 O : List Addr} (h : index x y = some d) (ra : Rd s.heap o x f1) (ri : Rd s.heap vi y f2) (o1 : Off f1 O) :
    wpAny (model prog w) A (getItem o vi) (PostE s O d false) E s := by
  cases ri with
  | int i u =>
    cases ra with
    | str z t zi =>
      simp only [index, Option.ite_none_right_eq_some, Option.map_eq_some_iff] at h
      obtain ⟨hb, c, hc, rfl⟩ := h
      obtain ⟨j, h1, h2⟩ := at_seq hc
      have h1' : seqIndex? i z.length = some j := by simpa [Str.length] using h1
      refine P.getItem_str (c := c) ?_ ?_ (post_str (Nat.le_of_lt (by decide : 1 < 16777216)))
      · simp; omega
      · rw [h1']; simpa using h2
    | @list a1 vs n xs g zz h1 h4 =>
      simp only [index, Option.ite_none_right_eq_some] at h
      obtain ⟨hb, hc⟩ := h
      have n1 : vs.size = xs.length := by simpa using h4.length
      unfold at? at hc
      split at hc
      · rename_i h0
        obtain ⟨v, fq, e1, e2, e3⟩ := h4.get hc
        exact wpAny_getItem_list (IsL.isList h1) h0 (by omega) (by simpa using e1) (post_old (k := s.toks) e2 fun a ha => o1 a (List.mem_cons_of_mem _ (e3 a ha)))
      · split at hc
        · rename_i h0 h0'
          obtain ⟨v, fq, e1, e2, e3⟩ := h4.get hc
          refine wpAny_getItem_list_neg (IsL.isList h1) (by omega) (by omega) (by omega) (x := v) ?_ (post_old (k := s.toks) e2 fun a ha => o1 a (List.mem_cons_of_mem _ (e3 a ha)))
          rw [n1]; simpa using e1
        · cases hc
    | @tuple a1 vs n xs g zz h1 h4 =>
      simp only [index, Option.ite_none_right_eq_some] at h
      obtain ⟨hb, hc⟩ := h
      have n1 : vs.size = xs.length := by simpa using h4.length
      obtain ⟨j, k1, k2⟩ := at_seq hc
      obtain ⟨v, fq, e1, e2, e3⟩ := h4.get k2
      exact getItem_tuple (IsT.isTup h1) (by omega) (by omega) (by rw [n1]; exact k1) (by simpa using e1) (post_old (k := s.toks) e2 fun a ha => o1 a (List.mem_cons_of_mem _ (e3 a ha)))
    | _ => exact no h
  | _ => cases ra <;> exact no h

noncomputable def notSlice : Expr → Bool
  | .Slice .. => false
  | _ => true
theorem sub_plain {sl : Expr} (h : notSlice sl = true) (o i : Value) : subscripted sl false o i = operate [o, i] (getItem o i) := by
  cases sl <;> first | rfl | simp [notSlice] at h
theorem s_index {value sl : Expr} {o vi : Value} {x y d : D} {f1 f2 O : List Addr} (hs : notSlice sl = true) (h : index x y = some d) (ra : Rd s.heap o x f1) (ri : Rd s.heap vi y f2) (o1 : Off f1 O) :
    wpAny (model prog w) A (subscriptTail value sl o vi) (PostE s O d false) E s := by
  have hg := s_getItem (prog := prog) (w := w) (A := A) (E := E) h ra ri o1
  cases ra with
  | str z t zi => exact tail_any (typeIs_str _ z t) F.slot_str_getitem.lookup hg (sub_plain hs _ _)
  | list zz h1 h4 => exact tail_any (Heap.IsList.typeIs (IsL.isList h1)) list_getitem_lookup hg (sub_plain hs _ _)
  | tuple zz h1 h4 => exact tail_any (IsTup.typeIs (IsT.isTup h1)) F.slot_tuple_getitem.lookup hg (sub_plain hs _ _)
  | _ => cases ri <;> exact no h

theorem s_len {v : Value} {x d : D} {f1 O : List Addr} (h : length x = some d) (r : Rd s.heap v x f1) : wpAny (model prog w) A (call (.builtin "len") [v]) (PostE s O d false) E s := by
  cases r with
  | str z t zi => cases h; exact P.len_str (by omega) post_int
  | @list a1 vs n xs g zz h1 h4 =>
    cases h
    have n1 : vs.size = xs.length := by simpa using h4.length
    refine Calls.call_len_list (IsL.isList h1) (by omega) ?_
    rw [n1]; exact post_int
  | @tuple a1 vs n xs g zz h1 h4 =>
    cases h
    have n1 : vs.size = xs.length := by simpa using h4.length
    refine len_tuple (IsT.isTup h1) (by omega) ?_
    rw [n1]; exact post_int
  | _ => exact no h
end
end Mine
namespace Mine
open PySem PySem.SeqAt PyProof.Rows

theorem rds_strs {h : Heap} : ∀ {vs : List Value} {l : List D} {fp : List Addr} {ts : List Str}, Rds h vs l fp → strs? l = some ts → ∃ p : List (Str × Tok), vs = strValues p ∧ p.map (·.1) = ts
  | _, _, _, _, .nil, e => by cases e; exact ⟨[], rfl, rfl⟩
  | _, _, _, _, .cons r rs, e => by
    cases r with
    | str x t z =>
      simp only [strs?, Option.map_eq_some_iff] at e
      obtain ⟨ts', e', rfl⟩ := e
      obtain ⟨p, rfl, rfl⟩ := rds_strs rs e'
      exact ⟨(x, t) :: p, rfl, rfl⟩
    | _ => simp [strs?] at e
theorem rds_of_strs {h : Heap} : ∀ (p : List (Str × Tok)), (∀ q ∈ p, q.1.length ≤ 16777216) → Rds h (strValues p) (p.map fun q => PyData.str q.1) []
  | [], _ => .nil
  | (x, t) :: p, hz => by
    have := Rds.cons (Rd.str (h := h) x t (hz (x, t) (List.mem_cons_self ..))) (rds_of_strs p fun q hq => hz q (List.mem_cons_of_mem _ hq))
    exact this

theorem place_spec {x : Str} : ∀ {ts : List Str} {k j : Nat}, place? x ts k = some j → k ≤ j ∧ ts[j - k]? = some x ∧ ∀ m, m < j - k → ∀ y, ts[m]? = some y → y ≠ x
  | [], _, _, h => by simp [place?] at h
  | y :: r, k, j, h => by
    unfold place? at h
    split at h
    · rename_i e
      cases h
      subst e
      exact ⟨Nat.le_refl _, by simp, fun m hm => by omega⟩
    · rename_i e
      obtain ⟨h1, h2, h3⟩ := place_spec h
      have ej : j - k = (j - (k + 1)) + 1 := by omega
      refine ⟨by omega, by rw [ej, List.getElem?_cons_succ]; exact h2, fun m hm z hz => ?_⟩
      cases m with
      | zero => simp at hz; subst hz; exact e
      | succ m => exact h3 m (by omega) z (by simpa using hz)

theorem parts_len (x : Str) (cuts : List Nat) (n : Nat) : (Builtin.Str.partsBetween x cuts n).length = cuts.length + 1 := by
  unfold Builtin.Str.partsBetween
  simp
theorem parts_le (x : Str) (cuts : List Nat) (n : Nat) : ∀ p ∈ Builtin.Str.partsBetween x cuts n, p.length ≤ x.length := by
  intro p hp
  unfold Builtin.Str.partsBetween at hp
  obtain ⟨q, _, rfl⟩ := List.mem_map.mp hp
  exact strSub_length_le x _ _

theorem numbered_fst : ∀ (k : Nat) (xs : List Str), (numbered k xs).map (·.1) = xs
  | _, [] => rfl
  | k, x :: r => by rw [numbered, List.map_cons, numbered_fst (k + 1) r]
theorem rds_numbered {h : Heap} (k : Nat) (xs : List Str) (hz : ∀ p ∈ xs, p.length ≤ 16777216) : Rds h (strValues (numbered k xs)) (xs.map PyData.str) [] := by
  have := rds_of_strs (h := h) (numbered k xs) fun q hq => hz q.1 (by rw [← numbered_fst k xs]; exact List.mem_map_of_mem hq)
  have e : (numbered k xs).map (fun q => PyData.str q.1) = xs.map PyData.str := by
    rw [← numbered_fst k xs, List.map_map]
    rw [numbered_fst]; rfl
  rwa [e] at this

section
variable {prog : Program} {w : World} {A : Around} {E : Value → Shared → Prop} {s : Shared}

theorem s_split {x y : Str} {t u : Tok} {O : List Addr} (hy : y.length ≠ 0) (hx : x.length ≤ 1048576) (L : Live O s.heap) :
    wpAny (model prog w) A (call (.builtin "str.split") [.str x t, .str y u]) (PostE s O (.list ((Txt.split x y).map .str)) true) E s := by
  have hy' : (y.length == 0) = false := by simpa using hy
  have itself : PostE s O (.list ([x].map .str)) true (.ref s.heap.objs.size) { s with heap := s.heap.push { cls := .type "list", data := .seq [Value.str x t].toArray } } :=
    post_list (vs := [Value.str x t].toArray) (k := s.toks) (.cons (.str x t (by omega)) .nil) off_nil L (Nat.le_of_lt (by decide : 1 < 16777216))
  unfold Txt.split
  cases h1 : (decide (x.length < y.length) || decide (Builtin.Str.strKind x < Builtin.Str.strKind y))
  · cases hf : (Builtin.Str.occurrences x y 0 x.length (x.length + 1)).isEmpty
    · simp only [Bool.false_eq_true, if_false]
      have hle := StrLaws.occ_length_le x y 0 x.length (x.length + 1)
      have hn := parts_len x (Builtin.Str.occurrences x y 0 x.length (x.length + 1)) y.length
      refine call_meets F.slot_str_split (typeIs_str _ _ _) F.entry_str_split (F.args_str_split_2 _ _) (meets_str_split_sep x y t u h1 hy' hf (by rw [sizeL]; omega) (by rw [sizeL]; omega)) ?_
      rw [strsFrom_eq]
      refine post_list (vs := (strValues (numbered s.toks _)).toArray) (fq := []) ?_ off_nil L ?_
      · rw [List.toList_toArray]
        refine rds_numbered _ _ ?_
        intro p hp
        have := parts_le _ _ _ p hp
        omega
      · rw [List.size_toArray, strValues, List.length_map]
        rw [← List.length_map (f := fun q : Str × Tok => q.1), numbered_fst]
        omega
    · simp only [Bool.false_eq_true, if_false, if_true]
      exact call_meets F.slot_str_split (typeIs_str _ _ _) F.entry_str_split (F.args_str_split_2 _ _) (meets_str_split_not_found x y t u h1 hy' hf) itself
  · simp only [if_true]
    exact call_meets F.slot_str_split (typeIs_str _ _ _) F.entry_str_split (F.args_str_split_2 _ _) (meets_str_split_cannot_occur x y t u h1) itself

theorem s_join {x : Str} {t : Tok} {a : Addr} {vs : Array Value} {n : Nat} {l : List D} {ts : List Str} {fp O : List Addr} (hl : IsL s.heap a vs n) (r : Rds s.heap vs.toList l fp) (hs : strs? l = some ts)
    (hz : (ts.map (·.length)).sum + ts.length * x.length ≤ 16777216) :
    wpAny (model prog w) A (call (.builtin "str.join") [.str x t, .ref a]) (PostE s O (.str (Str.join x ts)) false) E s := by
  obtain ⟨p, e1, e2⟩ := rds_strs r hs
  have e3 : vs = (strValues p).toArray := by rw [← e1]
  have hz' : Builtin.Str.tooLong (ts.toArray.foldl (· + ·.length + x.length) 0) = false := by
    rw [StrLaws.joinTotal]
    unfold Builtin.Str.tooLong
    rw [sizeL]
    exact decide_eq_false (by omega)
  have hjoin : Txt.join x ts = Str.join x ts := StrLaws.glued_eq_join x ts
  refine SC.join (l := p) (texts := ts) (e3 ▸ IsL.isList hl) e2 (by unfold JoinOk; rw [hz']; rfl) fun t' k => ?_
  rw [hjoin]
  refine post_str ?_
  have := StrLaws.join_length_le x ts
  omega

noncomputable def m0name : M0 → Str
  | .lower => "lower" | .upper => "upper" | .swapcase => "swapcase"
noncomputable def m1name : M1 → Str
  | .split => "split" | .join => "join" | .startswith => "startswith" | .endswith => "endswith" | .find => "find" | .rfind => "rfind" | .index => "index"
noncomputable def m1fresh : M1 → Bool
  | .split => true
  | _ => false
theorem name0 {n : Str} {m : M0} (h : meth0? n = some m) : n = m0name m := by
  unfold meth0? at h
  split at h
  · cases h; assumption
  · split at h
    · cases h; assumption
    · split at h
      · cases h; assumption
      · cases h

theorem s_meth0 {m : M0} {name : Str} {ov : Value} {x d : D} {fp O : List Addr} {pos : Pos} (hn : meth0? name = some m) (h : method0 m x = some d) (r : Rd s.heap ov x fp) :
    MethodOnS prog w A E name ov pos [] (PostE s O d false) s := by
  rw [name0 hn]
  obtain ⟨i, hi, h⟩ := bnd h
  cases str?_is hi
  obtain ⟨hz, rfl⟩ := itd h
  obtain ⟨t, rfl, z⟩ := r.str_is
  cases m with
  | lower => exact SB.lower (fit_lower hz) (post_str (by have := len_lower i; show (Txt.lower i).length ≤ _; omega))
  | upper => exact SB.upper (fit_upper hz) (post_str (by have := len_upper i; show (Txt.upper i).length ≤ _; omega))
  | swapcase => exact SB.swapcase (fit_swapcase hz) (post_str (by have := len_swapcase i; show (Txt.swapcase i).length ≤ _; omega))

theorem name1 {n : Str} {m : M1} (h : meth1? n = some m) : n = m1name m := by
  unfold meth1? at h
  split at h
  · cases h; assumption
  · split at h
    · cases h; assumption
    · split at h
      · cases h; assumption
      · split at h
        · cases h; assumption
        · split at h
          · cases h; assumption
          · split at h
            · cases h; assumption
            · split at h
              · cases h; assumption
              · cases h

theorem s_meth1 {m : M1} {name : Str} {ov : Value} {x d : D} {fp O : List Addr} {pos : Pos} {a : Sem Value} (hn : meth1? name = some m) (r : Rd s.heap ov x fp) (L : Live O s.heap)
    (ha : wpAny (model prog w) A a (fun v s₁ => Go s s₁ ∧ ∃ y fq, Rd s₁.heap v y fq ∧ method1 m x y = some d) E s) (hkind : ∃ y, method1 m x y = some d) :
    MethodOnS prog w A E name ov pos [(false, a)] (PostE s O d (m1fresh m)) s := by
  rw [name1 hn]
  clear hn
  obtain ⟨y₀, hy₀⟩ := hkind
  cases m with
  | startswith =>
    obtain ⟨i, hi, _⟩ := bnd hy₀
    cases str?_is hi
    obtain ⟨t, rfl, z⟩ := r.str_is
    refine SB.startswith (wpAny_mono ha (fun v s₁ h₁ => ?_) fun _ _ e => e)
    obtain ⟨g, y, fq, ry, hy⟩ := h₁
    obtain ⟨j, hj, hy⟩ := bnd hy
    cases str?_is hj
    obtain ⟨u, rfl, _⟩ := ry.str_is
    cases Option.some.inj hy
    exact ⟨j, u, rfl, PostE.lift g post_bool⟩
  | endswith =>
    obtain ⟨i, hi, _⟩ := bnd hy₀
    cases str?_is hi
    obtain ⟨t, rfl, z⟩ := r.str_is
    refine SB.endswith (wpAny_mono ha (fun v s₁ h₁ => ?_) fun _ _ e => e)
    obtain ⟨g, y, fq, ry, hy⟩ := h₁
    obtain ⟨j, hj, hy⟩ := bnd hy
    cases str?_is hj
    obtain ⟨u, rfl, _⟩ := ry.str_is
    cases Option.some.inj hy
    exact ⟨j, u, rfl, PostE.lift g post_bool⟩
  | find =>
    obtain ⟨i, hi, _⟩ := bnd hy₀
    cases str?_is hi
    obtain ⟨t, rfl, z⟩ := r.str_is
    refine SB.find (wpAny_mono ha (fun v s₁ h₁ => ?_) fun _ _ e => e)
    obtain ⟨g, y, fq, ry, hy⟩ := h₁
    obtain ⟨j, hj, hy⟩ := bnd hy
    cases str?_is hj
    obtain ⟨u, rfl, _⟩ := ry.str_is
    cases Option.some.inj hy
    exact ⟨j, u, rfl, PostE.lift g post_int⟩
  | rfind =>
    obtain ⟨i, hi, _⟩ := bnd hy₀
    cases str?_is hi
    obtain ⟨t, rfl, z⟩ := r.str_is
    refine SB.rfind (wpAny_mono ha (fun v s₁ h₁ => ?_) fun _ _ e => e)
    obtain ⟨g, y, fq, ry, hy⟩ := h₁
    obtain ⟨j, hj, hy⟩ := bnd hy
    cases str?_is hj
    obtain ⟨u, rfl, _⟩ := ry.str_is
    cases Option.some.inj hy
    exact ⟨j, u, rfl, PostE.lift g post_int⟩
  | split =>
    obtain ⟨i, hi, _⟩ := bnd hy₀
    cases str?_is hi
    obtain ⟨t, rfl, z⟩ := r.str_is
    refine ⟨"str", "str.split", F.plainAttrs_str, F.slot_str_split, F.type_str_split, typeIs_str _ _ _, (fun _ e => nomatch e), ?_⟩
    refine Calls.callWith_builtin rfl (Calls.evalArgs_plain (Calls.spliced_cons (wpAny_mono ha (fun v s₁ h₁ => Calls.spliced_nil ?_) fun _ _ e => e)))
    obtain ⟨g, y, fq, ry, hy⟩ := h₁
    obtain ⟨j, hj, hy⟩ := bnd hy
    cases str?_is hj
    obtain ⟨u, rfl, _⟩ := ry.str_is
    obtain ⟨⟨h1, h2⟩, rfl⟩ := itd hy
    exact wpAny_mono (s_split h1 h2 (L.kp g.kp)) (fun _ _ p => PostE.lift g p) fun _ _ e => e
  | join =>
    obtain ⟨i, hi, _⟩ := bnd hy₀
    cases str?_is hi
    obtain ⟨t, rfl, z⟩ := r.str_is
    refine ⟨"str", "str.join", F.plainAttrs_str, F.slot_str_join, F.type_str_join, typeIs_str _ _ _, (fun _ e => nomatch e), ?_⟩
    refine Calls.callWith_builtin rfl (Calls.evalArgs_plain (Calls.spliced_cons (wpAny_mono ha (fun v s₁ h₁ => Calls.spliced_nil ?_) fun _ _ e => e)))
    obtain ⟨g, y, fq, ry, hy⟩ := h₁
    obtain ⟨l, hj, hy⟩ := bnd hy
    cases list?_is hj
    obtain ⟨a1, vs, n, gg, rfl, rfl, zl, h1, h4⟩ := ry.list_is
    obtain ⟨ts, e1, hy⟩ := bnd hy
    obtain ⟨e2, rfl⟩ := itd hy
    exact wpAny_mono (s_join h1 h4 e1 e2) (fun _ _ p => PostE.lift g p) fun _ _ e => e
  | index =>
    obtain ⟨xs, hi, _⟩ := bnd hy₀
    cases list?_is hi
    obtain ⟨a1, vs, n, gg, rfl, rfl, zl, h1, h4⟩ := r.list_is
    refine ⟨"list", "list.index", F.plainAttrs_list, F.slot_list_index, F.type_list_index, Heap.IsList.typeIs (IsL.isList h1), (fun b e => ⟨_, by cases e; exact h1, rfl⟩), ?_⟩
    refine P.index_list (wpAny_mono ha (fun v s₁ h₁ => ?_) fun _ _ e => e)
    obtain ⟨g, y, fq, ry, hy⟩ := h₁
    obtain ⟨j, hj, hy⟩ := bnd hy
    cases str?_is hj
    obtain ⟨u, rfl, _⟩ := ry.str_is
    obtain ⟨ts, e1, hy⟩ := bnd hy
    obtain ⟨k, e2, rfl⟩ := mpd hy
    obtain ⟨_, q2, q3⟩ := place_spec e2
    obtain ⟨p, e3, e4⟩ := rds_strs h4 e1
    have e5 : vs = (strValues p).toArray := by rw [← e3]
    rw [Nat.sub_zero] at q2 q3
    have hk : k < p.length := by rw [← e4] at q2; simpa using (List.getElem?_eq_some_iff.mp q2).1
    have hsz : vs.size = p.length := by rw [e5]; simp [strValues]
    refine ⟨vs, n, fun v => match v with | .str z _ => z == j | _ => false, k, by omega, g.kp _ _ h1, fun v hv => ?_, by omega, ?_, ?_, PostE.lift g post_int⟩
    · rw [e5] at hv
      have hv' : v ∈ strValues p := by simpa using hv
      obtain ⟨q, _, rfl⟩ := List.mem_map.mp hv'
      have := SeqRoads2.EqGives.str q.1 j q.2 u
      rwa [str_beq] at this
    · subst e5
      rw [← e4] at q2
      have : (p.map (·.1))[k]? = some p[k].1 := by simp [hk]
      rw [this] at q2
      cases q2
      simp [strValues]
    · intro m hm1 hm2
      subst e5
      have hml : m < p.length := by omega
      have := q3 m hm2 p[m].1 (by rw [← e4]; simp [hml])
      simp [strValues, this]
end
end Mine
namespace Mine
open PySem PySem.SeqAt PyProof.Rows PySem.Calls

/-- room for k more levels -/
structure Rm (k : Nat) (A : Around) : Prop where
  h : A.handled = none
  d : A.depth + k < 1000
  u : A.units + 16 * k + 100 < 9900
theorem Rm.le {k j : Nat} {A : Around} (r : Rm k A) (h : j ≤ k) : Rm j A := ⟨r.h, by have := r.d; omega, by have := r.u; omega⟩
theorem Rm.units {k : Nat} {A : Around} (r : Rm k A) : A.units + 8 < cLine := by have := r.u; unfold cLine; omega
theorem Rm.deeper {k : Nat} {A : Around} {env : Env} (r : Rm (k + 1) A) : Rm k (A.deeper env) :=
  ⟨r.h, by have := r.d; show A.depth + 1 + k < 1000; omega, by have := r.u; show A.units + 3 + 16 * k + 100 < 9900; omega⟩
theorem Rm.in1 {k : Nat} {A : Around} (r : Rm (k + 1) A) : Rm k A.in1 :=
  ⟨r.h, by have := r.d; show A.depth + k < 1000; omega, by have := r.u; show A.units + 1 + 16 * k + 100 < 9900; omega⟩

/-- what stands when the law is called -/
structure Base (mg mb : Str → Option Value) (h₀ : Heap) : Prop where
  g : h₀.Ns mainGlobals mg
  b : h₀.Ns builtinsNs mb
  nolimit : h₀.NoLimit
  boot : ∀ x : Str, x ≠ "__name__" → mb x = bootBuiltins x

noncomputable def CallPost (s : Shared) (O : List Addr) (d : D) (r : Result) (s' : Shared) : Prop := ∃ v, r = .ok (.ret v) ∧ PostE s O d false v s'
/-- a def of the text does what g says -/
noncomputable def CallOk (prog : Program) (w : World) (mg : Str → Option Value) (h₀ : Heap) (k : Nat) (f : Str) (g : List D → Option D) : Prop :=
  ∃ a o fd, mg f = some (.ref a) ∧ h₀.get? a = some o ∧ o.data = .func fd ∧ ∀ (A : Around) (s : Shared), Rm k A → KP h₀ s.heap → ∀ O vs args fp d, Live O s.heap → Rds s.heap vs args fp → Off fp O → g args = some d →
    codeAny (model prog w) A (.call (.ref a) ⟨vs, []⟩) (CallPost s O d) s

structure EnvOk (c : Cx) (env : Env) : Prop where
  sc : env.scope = c.sc
  fn : c.sc.kind = .function
  gl : env.globals = mainGlobals
  bl : env.builtins = builtinsNs
  cells : ∀ x, c.sc.names.lookup x = some .cell ∨ c.sc.names.lookup x = some .free → ∃ a, env.cells.lookup x = some a
  lt : ∀ x i, c.Γ.lookup x = some i → i < c.k

noncomputable def VarAt (h : Heap) (env : Env) (x : Str) (v : Value) : Prop :=
  (env.kindOf x = some .local ∧ ∃ m, h.Ns env.locals m ∧ m x = some v) ∨
  ((env.kindOf x = some .cell ∨ env.kindOf x = some .free) ∧ ∃ a, env.cells.lookup x = some a ∧ h.IsCell a (some v))
theorem VarAt.kp {h h' : Heap} {env : Env} {x : Str} {v : Value} (p : VarAt h env x v) (k : KP h h') : VarAt h' env x v := by
  rcases p with ⟨a, m, b, c⟩ | ⟨a, c, b, d⟩
  · exact .inl ⟨a, m, b.keeps k, c⟩
  · exact .inr ⟨a, c, b, d.keeps k⟩

/-- the names' values, as the mini language sees them -/
noncomputable def Vis (c : Cx) (h : Heap) (env : Env) (O : List Addr) (σ : List (Option D)) : Prop :=
  ∀ x i d, c.own? x = some i → (σ[i]?).bind id = some d → ∃ v fp, VarAt h env x v ∧ Rd h v d fp ∧ Off fp O
theorem Vis.kp {c : Cx} {h h' : Heap} {env : Env} {O : List Addr} {σ : List (Option D)} (V : Vis c h env O σ) (k : KP h h') : Vis c h' env O σ := fun x i d h1 h2 =>
  let ⟨v, fp, a, b, o⟩ := V x i d h1 h2
  ⟨v, fp, a.kp k, b.kp k, o⟩

section
variable {prog : Program} {w : World} {A : Around} {E : Value → Shared → Prop} {s : Shared} {mg mb : Str → Option Value} {h₀ : Heap} {c : Cx} {env : Env} {O : List Addr} {σ : List (Option D)}

theorem own_kind {x : Str} {i : Nat} (h : c.own? x = some i) : (x == ("__debug__" : Str)) = false ∧ (x == ("__classdict__" : Str)) = false ∧ (x == (".0" : Str)) = false ∧
    (c.sc.names.lookup x = some .local ∨ c.sc.names.lookup x = some .cell ∨ c.sc.names.lookup x = some .free) ∧ c.Γ.lookup x = some i := by
  unfold Cx.own? at h
  split at h
  · cases h
  · rename_i hn
    rw [Bool.or_eq_true, Bool.or_eq_true, not_or, not_or] at hn
    refine ⟨by simpa using hn.1.1, by simpa using hn.1.2, by simpa using hn.2, ?_⟩
    split at h
    · exact ⟨.inl (by assumption), h⟩
    · exact ⟨.inr (.inl (by assumption)), h⟩
    · exact ⟨.inr (.inr (by assumption)), h⟩
    · cases h

theorem s_name {x : Str} {p : Pos} {i : Nat} {d : D} (EO : EnvOk c env) (V : Vis c s.heap env O σ) (hx : c.own? x = some i) (hd : (σ[i]?).bind id = some d) :
    wpAny (model prog w) A (eval (.Name x p) env) (PostE s O d false) E s := by
  obtain ⟨v, fp, hv, r, o⟩ := V x i d hx hd
  obtain ⟨k1, k2, _, _, _⟩ := own_kind hx
  have hk : env.scope.kind = .function := by rw [EO.sc]; exact EO.fn
  refine wpAny_Name ?_ k1
  rcases hv with ⟨a, m, b, e⟩ | ⟨a | a, q, b, e⟩
  · exact wpAny_loadName_local hk a b e (post_old (k := s.toks) r o)
  · exact wpAny_loadName_cell hk a b e (post_old (k := s.toks) r o)
  · exact wpAny_loadName_free hk a b e (post_old (k := s.toks) r o) k2

/-- a name of the module's top that a def has bound -/
theorem s_glob {x : Str} {p : Pos} {v : Value} {Q : Value → Shared → Prop} (B : Base mg mb h₀) (EO : EnvOk c env) (K : KP h₀ s.heap) (hx : c.glob x = true) (hv : mg x = some v) (hq : Q v s) :
    wpAny (model prog w) A (eval (.Name x p) env) Q E s := by
  unfold Cx.glob at hx
  simp only [Bool.and_eq_true, beq_iff_eq, bne_iff_ne] at hx
  have hk : env.scope.kind = .function := by rw [EO.sc]; exact EO.fn
  have hx' : env.kindOf x = some .globalImplicit := by unfold Env.kindOf; rw [EO.sc]; exact hx.1
  exact Name_function_global hk hx' (loadGlobal_global (env := env) (by rw [EO.gl]; exact B.g.keeps K) hv hq) (by simpa using hx.2)
theorem s_builtin {x : Str} {p : Pos} {v : Value} {Q : Value → Shared → Prop} (B : Base mg mb h₀) (EO : EnvOk c env) (K : KP h₀ s.heap) (hx : c.glob x = true) (hm : mg x = none) (hn : x ≠ "__name__") (hv : bootBuiltins x = some v) (hq : Q v s) :
    wpAny (model prog w) A (eval (.Name x p) env) Q E s := by
  unfold Cx.glob at hx
  simp only [Bool.and_eq_true, beq_iff_eq, bne_iff_ne] at hx
  have hk : env.scope.kind = .function := by rw [EO.sc]; exact EO.fn
  have hx' : env.kindOf x = some .globalImplicit := by unfold Env.kindOf; rw [EO.sc]; exact hx.1
  exact Name_function_global hk hx' (loadGlobal_builtin (env := env) (by rw [EO.gl]; exact B.g.keeps K) hm (by rw [EO.bl]; exact B.b.keeps K) ((B.boot x hn).trans hv) hq) (by simpa using hx.2)

/-- the iterators that own the tuple that they give -/
noncomputable def owners : List String := ["enumerate", "zip", "dict_itemiterator", "dict_reverseitemiterator", "odict_iterator", "itertools.zip_longest", "itertools.pairwise"]
/-- an iterator that gives the items one by one -/
inductive Iter (prog : Program) (w : World) (s : Shared) (O : List Addr) (ds : List D) (it : Value) (s₂ : Shared) : Prop
  | mk (hds : ds.length ≤ 16777216) (g : Go s s₂) (I : Addr) (fp : List Addr) (P : Nat → Value → Prop) (St : Nat → Heap → Prop) (e : it = .ref I) (W : ∀ A' : Around, A'.handled = none → Walks prog w A' I fp [I] ds.length P St) (hlive : ∀ i h, St i h → ∃ o, h.get? I = some o ∧ ∃ n, o.cls = .type n ∧ owners.contains n = false)
    (hst : St 0 s₂.heap) (hIn : s.heap.get? I = none) (hlt : I < s₂.heap.objs.size) (hI : ∃ oI, s₂.heap.get? I = some oI ∧ ∀ vs n, oI.data ≠ .seq vs n)
    (hfp : ∀ b ∈ fp, b = I ∨ (b ∉ O ∧ ∃ o vs n, s.heap.get? b = some o ∧ o.data = .seq vs n))
    (hP : ∀ i v, i < ds.length → P i v → ∃ d fq, ds[i]? = some d ∧ Rd s₂.heap v d fq ∧ Off fq O ∧ I ∉ fq) : Iter prog w s O ds it s₂
theorem seq_ne_iter {h : Heap} {I : Addr} {oI : Obj} {v : Value} {d : D} {fp : List Addr} (hI : h.get? I = some oI) (hn : ∀ vs n, oI.data ≠ .seq vs n) (r : Rd h v d fp) : I ∉ fp := fun hm => by
  obtain ⟨o, vs, n, e1, e2⟩ := r.seqs I hm
  rw [hI] at e1; cases e1
  exact hn vs n e2

theorem s_iter {xv : Value} {d : D} {ds : List D} {fp : List Addr} (h : items d = some ds) (r : Rd s.heap xv d fp) (o : Off fp O) : wpAny (model prog w) A (pyIter xv) (Iter prog w s O ds) E s := by
  cases r with
  | str x t z =>
    cases h
    have hlen : (x.cps.toList.map fun c => PyData.str (mkS [c])).length = x.cps.size := by simp
    have fin : ∀ (ob : Obj) (St : Nat → Heap → Prop), (∀ vs n, ob.data ≠ .seq vs n) → ob.isFreed = false → (∀ A' : Around, A'.handled = none → Walks prog w A' s.heap.objs.size [s.heap.objs.size] [s.heap.objs.size] x.cps.size (SignAt x) St) → (∀ i h, St i h → ∃ o, h.get? s.heap.objs.size = some o ∧ ∃ n, o.cls = .type n ∧ owners.contains n = false) →
        St 0 (s.heap.push ob) → Iter prog w s O (x.cps.toList.map fun c => PyData.str (mkS [c])) (.ref s.heap.objs.size) { s with heap := s.heap.push ob } := by
      intro ob St hob hfr W hlive hst
      refine ⟨by rw [hlen]; exact z, Go.push s ob s.toks, s.heap.objs.size, [s.heap.objs.size], SignAt x, St, rfl, fun A' hA => by rw [hlen]; exact W A' hA, hlive, hst, size_none _, by rw [Heap.size_push]; exact Nat.lt_succ_self _, ⟨ob, Heap.get?_push_size _ hfr, hob⟩, fun b hb => .inl (by simpa using hb), fun i v hlt hP => ?_⟩
      obtain ⟨c, u, e1, rfl⟩ := hP
      exact ⟨.str (mkS [c]), [], by simp [e1], .str _ _ (Nat.le_of_lt (by decide : 1 < 16777216)), off_nil, fun hm => nomatch hm⟩
    cases ha : x.cps.all (· < 128)
    · exact wpAny_pyIter_wide ha (fin _ _ (fun _ _ e => nomatch e) rfl (fun A' hA => Walks.strWide hA _ x t) (fun _ _ st => let ⟨o, e, c, _⟩ := st; ⟨o, e, _, c, by decide⟩) ⟨_, Heap.get?_push_size _ rfl, rfl, rfl⟩)
    · exact wpAny_pyIter_ascii ha (fin _ _ (fun _ _ e => nomatch e) rfl (fun A' hA => Walks.strAscii hA _ x t) (fun _ _ st => let ⟨o, e, c, _⟩ := st; ⟨o, e, _, c, by decide⟩) ⟨_, Heap.get?_push_size _ rfl, rfl, rfl⟩)
  | @list a1 vs n xs g zz h1 h4 =>
    cases h
    have n1 : vs.size = ds.length := by simpa using h4.length
    have hne : a1 ≠ s.heap.objs.size := fun e => by rw [IsL, e, size_none] at h1; cases h1
    refine wpAny_pyIter_list (IsL.isList h1) ?_
    have hI : (s.heap.push { cls := .type "list_iterator", data := .fields #[.ref a1, .int 0 0] }).get? s.heap.objs.size = some { cls := .type "list_iterator", data := .fields #[.ref a1, .int 0 0] } := Heap.get?_push_size _ rfl
    have k := (Go.push s { cls := .type "list_iterator", data := .fields #[.ref a1, .int 0 0] } s.toks).kp
    refine ⟨by omega, Go.push s _ s.toks, s.heap.objs.size, [s.heap.objs.size, a1], fun i v => vs[i]? = some v, fun i h => h.IsListIter s.heap.objs.size a1 i ∧ h.IsList a1 vs, rfl, fun A' hA => by rw [← n1]; exact Walks.list hA _ _ hne vs, (fun _ _ st => let ⟨o, e, c, _⟩ := st.1; ⟨o, e, _, c, by decide⟩),
      ⟨⟨_, hI, rfl, rfl⟩, (IsL.isList h1).push _⟩, size_none _, by rw [Heap.size_push]; exact Nat.lt_succ_self _, ⟨_, hI, fun vs n e => nomatch e⟩, fun b hb => ?_, fun i v hlt hP => ?_⟩
    · rcases List.mem_cons.mp hb with rfl | hb
      · exact .inl rfl
      · have : b = a1 := by simpa using hb
        subst this
        exact .inr ⟨o _ (List.mem_cons_self ..), _, _, _, h1, rfl⟩
    · have hi : i < ds.length := by rw [← n1]; exact (Array.getElem?_eq_some_iff.mp hP).1
      obtain ⟨v', fq, e1, e2, e3⟩ := h4.get (j := i) (d := ds[i]) (by simp [hi])
      have : v' = v := by
        have e1' : vs[i]? = some v' := by simpa using e1
        rw [hP] at e1'; cases e1'; rfl
      subst this
      exact ⟨_, fq, by simp [hi], e2.kp k, fun b hb => o b (List.mem_cons_of_mem _ (e3 b hb)), seq_ne_iter hI (fun vs n e => nomatch e) (e2.kp k)⟩
  | @tuple a1 vs n xs g zz h1 h4 =>
    cases h
    have n1 : vs.size = ds.length := by simpa using h4.length
    have hne : a1 ≠ s.heap.objs.size := fun e => by rw [IsT, e, size_none] at h1; cases h1
    refine wpAny_pyIter_tuple (IsT.isTuple h1) ?_
    have hI : (s.heap.push { cls := .type "tuple_iterator", data := .fields #[.ref a1, .int 0 0] }).get? s.heap.objs.size = some { cls := .type "tuple_iterator", data := .fields #[.ref a1, .int 0 0] } := Heap.get?_push_size _ rfl
    have k := (Go.push s { cls := .type "tuple_iterator", data := .fields #[.ref a1, .int 0 0] } s.toks).kp
    have hT : (s.heap.push { cls := .type "tuple_iterator", data := .fields #[.ref a1, .int 0 0] }).IsTuple a1 vs := ⟨_, k _ _ h1, rfl, _, rfl⟩
    refine ⟨by omega, Go.push s _ s.toks, s.heap.objs.size, [s.heap.objs.size, a1], fun i v => vs[i]? = some v, fun i h => h.IsTupleIter s.heap.objs.size a1 i ∧ h.IsTuple a1 vs, rfl, fun A' hA => by rw [← n1]; exact Walks.tuple hA _ _ hne vs, (fun _ _ st => let ⟨o, e, c, _⟩ := st.1; ⟨o, e, _, c, by decide⟩),
      ⟨⟨_, hI, rfl, rfl⟩, hT⟩, size_none _, by rw [Heap.size_push]; exact Nat.lt_succ_self _, ⟨_, hI, fun vs n e => nomatch e⟩, fun b hb => ?_, fun i v hlt hP => ?_⟩
    · rcases List.mem_cons.mp hb with rfl | hb
      · exact .inl rfl
      · have : b = a1 := by simpa using hb
        subst this
        exact .inr ⟨o _ (List.mem_cons_self ..), _, _, _, h1, rfl⟩
    · have hi : i < ds.length := by rw [← n1]; exact (Array.getElem?_eq_some_iff.mp hP).1
      obtain ⟨v', fq, e1, e2, e3⟩ := h4.get (j := i) (d := ds[i]) (by simp [hi])
      have : v' = v := by
        have e1' : vs[i]? = some v' := by simpa using e1
        rw [hP] at e1'; cases e1'; rfl
      subst this
      exact ⟨_, fq, by simp [hi], e2.kp k, fun b hb => o b (List.mem_cons_of_mem _ (e3 b hb)), seq_ne_iter hI (fun vs n e => nomatch e) (e2.kp k)⟩
  | _ => exact no h

theorem s_rangeIter {a b : Int} {t u v : Tok} {r : Addr} (hr : IsRange s.heap r a b 1 t u v) (ha : a.natAbs < 2 ^ 40) (hb : b.natAbs < 2 ^ 40) (hz : (b - a).toNat ≤ 16777216) : wpAny (model prog w) A (pyIter (.ref r)) (Iter prog w s O (rangeL a b)) E s := by
  refine wpAny_pyIter_range hr (small_one (by omega) (by omega) (by omega) (by omega)) ?_
  have hsz : Builtin.Range.rangeSize a b 1 = ((b - a).toNat : Int) := by rw [rangeSize_one]; split <;> omega
  have hlen : (rangeL a b).length = (b - a).toNat := by simp [rangeL]
  have hI : (s.heap.push { cls := .type "range_iterator", data := .fields #[rawInt a, rawInt (Builtin.Range.rangeSize a b 1), rawInt 1] }).get? s.heap.objs.size = some { cls := .type "range_iterator", data := .fields #[rawInt a, rawInt (Builtin.Range.rangeSize a b 1), rawInt 1] } := Heap.get?_push_size _ rfl
  refine ⟨by rw [hlen]; exact hz, Go.push s _ s.toks, s.heap.objs.size, [s.heap.objs.size], _, _, rfl, fun A' hA => by rw [hlen]; exact Walks.range hA s.heap.objs.size a 1 (b - a).toNat, (fun _ _ st => ⟨_, st, _, rfl, by decide⟩), ?_, size_none _, by rw [Heap.size_push]; exact Nat.lt_succ_self _, ⟨_, hI, fun vs n e => nomatch e⟩, fun c hc => .inl (by simpa using hc), fun i v hlt hP => ?_⟩
  · show IsRangeIter _ _ (a + ((0 : Nat) : Int) * 1) (((b - a).toNat : Int) - ((0 : Nat) : Int)) 1
    rw [hsz] at hI ⊢
    simpa using hI
  · obtain ⟨t', rfl⟩ := hP
    rw [hlen] at hlt
    refine ⟨.int (a + i), [], by simp [rangeL, hlt], ?_, off_nil, fun hm => nomatch hm⟩
    rw [Int.mul_one]
    exact .int _ _
end
end Mine
set_option linter.unusedSimpArgs false
namespace Mine
open PySem PySem.SeqAt PyProof.Rows PySem.Calls

/-- the cells that a comprehension takes along -/
noncomputable def closL (cells : List (Str × Addr)) : List (Str × NameKind) → List (Str × Addr) → List (Str × Addr)
  | [], acc => acc
  | (n, k) :: r, acc => closL cells r (if k == .free then (match cells.lookup n with | some a => (n, a) :: acc | none => acc) else acc)
theorem closure_eq {scope : Scope} {env : Env} (h : ∀ y ∈ scope.names, y.2 = .free → ∃ a, env.cells.lookup y.1 = some a) : closureFor scope env = pure (closL env.cells scope.names []) := by
  unfold closureFor
  have go : ∀ (names : List (Str × NameKind)) (acc : List (Str × Addr)), (∀ y ∈ names, y.2 = .free → ∃ a, env.cells.lookup y.1 = some a) →
      (forIn names acc fun x r => match x with | (name, kind) => if (kind == NameKind.free) = true then do let __do_lift ← cellOf env name; pure (ForInStep.yield ((name, __do_lift) :: r)) else pure (ForInStep.yield r) : Sem (List (Str × Addr))) = pure (closL env.cells names acc) := by
    intro names
    induction names with
    | nil => intro acc _; rfl
    | cons p r ih =>
      intro acc hp
      obtain ⟨n, k⟩ := p
      rw [List.forIn_cons]
      by_cases hk : (k == NameKind.free) = true
      · obtain ⟨a, ha⟩ := hp (n, k) (List.mem_cons_self ..) (by simpa using hk)
        have e : cellOf env n = pure a := by unfold cellOf; rw [ha]
        simp only [hk, if_true, e]
        show (forIn r ((n, a) :: acc) _ : Sem _) = _
        rw [ih _ fun y hy => hp y (List.mem_cons_of_mem _ hy)]
        have ha' : env.cells.lookup n = some a := ha
        simp only [closL, hk, if_true, ha']
      · simp only [hk]
        show (forIn r acc _ : Sem _) = _
        rw [ih _ fun y hy => hp y (List.mem_cons_of_mem _ hy)]
        simp only [closL, hk]
        rfl
  have := go scope.names [] h
  show (forIn scope.names [] _ >>= fun cs => pure cs : Sem _) = _
  rw [this]; rfl
theorem closL_acc {cells : List (Str × Addr)} {x : Str} {a : Addr} (hx : cells.lookup x = some a) : ∀ (names : List (Str × NameKind)) (acc : List (Str × Addr)), acc.lookup x = some a → (closL cells names acc).lookup x = some a
  | [], _, h => h
  | (n, k) :: r, acc, h => by
    unfold closL
    refine closL_acc hx r _ ?_
    split
    · split
      · rename_i b hb
        rw [List.lookup_cons]
        split
        · rename_i he
          have : x = n := by simpa using he
          subst this
          rw [hx] at hb; cases hb; rfl
        · exact h
      · exact h
    · exact h
theorem closL_look {cells : List (Str × Addr)} {x : Str} {a : Addr} (hx : cells.lookup x = some a) : ∀ (names : List (Str × NameKind)) (acc : List (Str × Addr)), (x, NameKind.free) ∈ names → (closL cells names acc).lookup x = some a
  | (n, k) :: r, acc, h => by
    rcases List.mem_cons.mp h with e | h
    · cases e
      unfold closL
      refine closL_acc hx r _ ?_
      simp [hx, List.lookup_cons]
    · unfold closL
      exact closL_look hx r _ h

theorem mem_of_look {α : Type} : ∀ {l : List (Str × α)} {n : Str} {c : α}, l.lookup n = some c → (n, c) ∈ l := fun h => mem_of_lookup h
theorem relab_look (outer : Scope) (x : Str) : ∀ names : List (Str × NameKind), ((names.map fun (n, k) => if (k == NameKind.free && outer.kind == .function && outer.names.lookup n == some NameKind.cell) then (n, NameKind.cell) else (n, k)).lookup x) =
    match names.lookup x with
    | some .free => if outer.kind == .function && outer.names.lookup x == some NameKind.cell then some .cell else some .free
    | r => r
  | [] => rfl
  | (n, k) :: r => by
    have ih := relab_look outer x r
    rw [List.map_cons, List.lookup_cons]
    by_cases hx : (x == n) = true
    · have : x = n := by simpa using hx
      subst this
      by_cases hc : (k == NameKind.free && outer.kind == .function && outer.names.lookup x == some NameKind.cell) = true
      · simp only [hc, if_true]
        simp only [Bool.and_eq_true, beq_iff_eq] at hc
        obtain ⟨⟨rfl, h2⟩, h3⟩ := hc
        simp [List.lookup_cons, h2, h3]
      · simp only [hc]
        simp only [Bool.and_eq_true, beq_iff_eq, not_and] at hc
        cases k <;> simp [List.lookup_cons]
        intro a b
        exact absurd b (hc ⟨rfl, a⟩)
    · have hx' : (x == n) = false := by simpa using hx
      have : ∀ b : Bool, ((if b = true then (n, NameKind.cell) else (n, k)) : Str × NameKind).1 = n := by intro b; cases b <;> rfl
      rw [List.lookup_cons, hx']
      dsimp only
      split
      · rename_i e
        rw [this] at e
        rw [hx'] at e; cases e
      · exact ih

noncomputable def inCx (c : Cx) (inner : Scope) (x : Str) : Cx := ⟨relab inner c.sc, (x, c.k) :: c.Γ, c.k + 1, c.fns⟩

theorem relabel_eq {inner : Scope} {env : Env} {sc : Scope} (h : env.scope = sc) : relabel inner env = relab inner sc := by subst h; rfl

section
variable {prog : Program} {w : World} {A : Around} {s : Shared} {mg mb : Str → Option Value} {h₀ : Heap} {c : Cx} {env : Env} {O : List Addr} {σ : List (Option D)} {inner : Scope} {x : Str}

theorem compOk_parts {xs : List Str} (h : compOk inner c.sc xs = true) : inner.kind = .function ∧ (∀ y ∈ inner.names, y.2 = .local → y.1 = ".0" ∨ y.1 ∈ xs) ∧ (∀ y ∈ inner.names, y.2 ≠ .cell) ∧
    (∀ y ∈ inner.names, y.2 = .local → inner.names.lookup y.1 = some .local) ∧ (∀ y ∈ inner.names, y.2 = .free → c.sc.names.lookup y.1 = some .cell ∨ c.sc.names.lookup y.1 = some .free) := by
  unfold compOk at h
  simp only [Bool.and_eq_true, List.all_eq_true, beq_iff_eq, bne_iff_ne, Bool.or_eq_true, List.contains_iff_mem] at h
  obtain ⟨⟨⟨⟨h1, h2⟩, h3⟩, h4⟩, h5⟩ := h
  refine ⟨h1, fun y hy e => ?_, fun y hy => h3 y hy, fun y hy e => (h4 y hy).resolve_left (fun q => q e), fun y hy e => (h5 y hy).resolve_left (fun q => q e)⟩
  rcases h2 y hy with (q | q) | q
  · exact absurd e q
  · exact .inl q
  · exact .inr q

theorem compEnv_ok {xs : List Str} (EO : EnvOk c env) (ok : compOk inner c.sc xs = true) (C : Addr) : EnvOk (inCx c inner x) (compEnvC inner (closL env.cells inner.names []) C env) := by
  obtain ⟨h1, h2, h3, h4, h5⟩ := compOk_parts ok
  refine ⟨relabel_eq EO.sc, h1, EO.gl, EO.bl, fun y hy => ?_, fun y i hy => ?_⟩
  · have hy' : inner.names.lookup y = some .free := by
      have e := relab_look c.sc y inner.names
      change (relab inner c.sc).names.lookup y = some .cell ∨ (relab inner c.sc).names.lookup y = some .free at hy
      unfold relab at hy
      dsimp only at hy
      rw [e] at hy
      cases hl : inner.names.lookup y with
      | none => rw [hl] at hy; simp at hy
      | some k =>
        cases k with
        | free => rfl
        | cell => exact absurd rfl (h3 _ (mem_of_look hl))
        | «local» => rw [hl] at hy; simp at hy
        | globalExplicit => rw [hl] at hy; simp at hy
        | globalImplicit => rw [hl] at hy; simp at hy
    have hm := mem_of_look hy'
    obtain ⟨a, ha⟩ := EO.cells y (h5 _ hm rfl)
    exact ⟨a, closL_look ha _ _ hm⟩
  · show i < c.k + 1
    change List.lookup y ((x, c.k) :: c.Γ) = some i at hy
    rw [List.lookup_cons] at hy
    split at hy
    · cases hy; omega
    · have := EO.lt y i hy; omega

theorem inner_vis {xs : List Str} (EO : EnvOk c env) (ok : compOk inner c.sc xs = true) (hxs : ∀ z ∈ xs, z ≠ x → c.Γ.lookup z = none) (hk : c.k = σ.length) (hxl : inner.names.lookup x = some .local) {h : Heap} {C : Addr} {m : Str → Option Value} {v : Value} {d : D} {fp O' : List Addr}
    (V : Vis c h env O' σ) (hn : h.Ns C m) (hm : m x = some v) (r : Rd h v d fp) (o : Off fp O') : Vis (inCx c inner x) h (compEnvC inner (closL env.cells inner.names []) C env) O' (σ ++ [some d]) := by
  obtain ⟨h1, h2, h3, h4, h5⟩ := compOk_parts ok
  intro y i dy hy hi
  obtain ⟨q1, q2, q0, q3, q4⟩ := own_kind hy
  have e := relab_look c.sc y inner.names
  have hnames : (inCx c inner x).sc.names = (inner.names.map fun (n, k) => if (k == NameKind.free && c.sc.kind == .function && c.sc.names.lookup n == some NameKind.cell) then (n, NameKind.cell) else (n, k)) := rfl
  rw [hnames, e] at q3
  have hkind : ∀ z, (compEnvC inner (closL env.cells inner.names []) C env).kindOf z = (inCx c inner x).sc.names.lookup z := fun z => by
    show (relabel inner env).names.lookup z = _
    rw [relabel_eq EO.sc]; rfl
  by_cases hyx : y = x
  · subst hyx
    rw [hxl] at q3
    have hi' : i = c.k := by
      change List.lookup y ((y, c.k) :: c.Γ) = some i at q4
      rw [List.lookup_cons] at q4
      simp at q4
      exact q4.symm
    subst hi'
    rw [hk, List.getElem?_append_right (Nat.le_refl _)] at hi
    simp at hi
    subst hi
    refine ⟨v, fp, .inl ⟨?_, m, hn, hm⟩, r, o⟩
    rw [hkind, hnames, e, hxl]
  · have hyx' : (y == x) = false := by simpa using hyx
    have q4' : c.Γ.lookup y = some i := by
      change List.lookup y ((x, c.k) :: c.Γ) = some i at q4
      rw [List.lookup_cons, hyx'] at q4
      exact q4
    have hlt := EO.lt y i q4'
    rw [List.getElem?_append_left (by omega)] at hi
    have hfree : inner.names.lookup y = some .free := by
      cases hl : inner.names.lookup y with
      | none => rw [hl] at q3; simp at q3
      | some k =>
        cases k with
        | free => rfl
        | cell => exact absurd rfl (h3 _ (mem_of_look hl))
        | «local» =>
          rcases h2 _ (mem_of_look hl) rfl with q | q
          · exact absurd q (by simpa using q0)
          · rw [hxs _ q hyx] at q4'; cases q4'
        | globalExplicit => rw [hl] at q3; simp at q3
        | globalImplicit => rw [hl] at q3; simp at q3
    have hm' := mem_of_look hfree
    have ho := h5 _ hm' rfl
    have hown : c.own? y = some i := by
      unfold Cx.own?
      rw [q1, q2, q0]
      rcases ho with ho | ho <;> simp only [ho] <;> exact q4'
    obtain ⟨v', fp', hv, r', o'⟩ := V y i dy hown hi
    have henv : env.kindOf y = c.sc.names.lookup y := by unfold Env.kindOf; rw [EO.sc]
    rcases hv with ⟨a, _⟩ | ⟨_, a, ha, hc⟩
    · rw [henv] at a
      rcases ho with ho | ho <;> rw [ho] at a <;> cases a
    · refine ⟨v', fp', .inr ⟨?_, a, closL_look ha _ _ hm', hc⟩, r', o'⟩
      rw [hkind, hnames, e, hfree]
      dsimp only
      split
      · exact .inl rfl
      · exact .inr rfl

theorem compM_step {cond elt : D → Option D} {d : D} {r out : List D} (h : compM cond elt (d :: r) = some out) :
    ∃ cv b, cond d = some cv ∧ truth cv = some b ∧ ((b = true ∧ ∃ v vs, elt d = some v ∧ compM cond elt r = some vs ∧ out = v :: vs) ∨ (b = false ∧ compM cond elt r = some out)) := by
  rw [compM] at h
  simp only [Option.bind_eq_some_iff] at h
  obtain ⟨b, ⟨cv, e1, e2⟩, e3⟩ := h
  refine ⟨cv, b, e1, e2, ?_⟩
  cases b with
  | true =>
    simp only [Option.bind_eq_some_iff, Option.some.injEq] at e3
    obtain ⟨v, q1, vs, q2, rfl⟩ := e3
    exact .inl ⟨rfl, v, vs, q1, q2, rfl⟩
  | false => exact .inr ⟨rfl, e3⟩


theorem off_cons {fp O : List Addr} {a : Addr} (o : Off fp O) (h : a ∉ fp) : Off fp (a :: O) := fun b hb hm => by
  rcases List.mem_cons.mp hm with q | hm
  · exact h (q ▸ hb)
  · exact o b hb hm
theorem Off.tail {fp O : List Addr} {a : Addr} (o : Off fp (a :: O)) : Off fp O ∧ a ∉ fp := ⟨fun b hb hm => o b hb (List.mem_cons_of_mem _ hm), fun hm => o a hm (List.mem_cons_self ..)⟩
theorem ns_not_seq {h : Heap} {C : Addr} {m : Str → Option Value} (hn : h.Ns C m) {vs : List Value} {ds : List D} {fp : List Addr} (r : Rds h vs ds fp) : C ∉ fp := fun hm => by
  obtain ⟨o', vs', n', e1, e2⟩ := r.seqs C hm
  obtain ⟨oL, _, _, hL, hLd, _⟩ := hn
  rw [e1] at hL; cases hL
  rw [e2] at hLd; cases hLd
theorem ns_not_seq1 {h : Heap} {C : Addr} {m : Str → Option Value} (hn : h.Ns C m) {v : Value} {d : D} {fp : List Addr} (r : Rd h v d fp) : C ∉ fp := fun hm => by
  obtain ⟨o', vs', n', e1, e2⟩ := r.seqs C hm
  obtain ⟨oL, _, _, hL, hLd, _⟩ := hn
  rw [e1] at hL; cases hL
  rw [e2] at hLd; cases hLd

/-- what holds at each turn of a comprehension's loop -/
inductive CInv (s s₂ : Shared) (St : Nat → Heap → Prop) (I C Dd : Addr) (O : List Addr) (g : List D → Option (List D)) (ds out : List D) (n : Nat) (s' : Shared) : Prop
  | mk (h' : Heap) (tk : Nat) (e : s' = { s with heap := h', toks := tk }) (i : Nat) (m : Str → Option Value) (ys : Array Value) (nn : Nat) (acc : List D) (fq : List Addr) (rest : List D) (hn : n = ds.length + 1 - i) (hi : i ≤ ds.length) (hst : St i h') (hk : ∀ b o, b ≠ I → s₂.heap.get? b = some o → h'.get? b = some o)
    (hI : ∃ o, h'.get? I = some o) (hC : h'.Ns C m) (hD : IsL h' Dd ys nn) (hys : ys.size ≤ i) (racc : Rds h' ys.toList acc fq) (off : Off fq (Dd :: I :: O)) (hev : g (ds.drop i) = some rest) (hout : out = acc ++ rest) : CInv s s₂ St I C Dd O g ds out n s'
/-- the loop of a comprehension -/
theorem s_compLoop {eltE itE : Expr} {px pos : Pos} {ifs : List Expr} {elt cond : X} {ds out : List D} {Φ : List (List D → Option D)} {it : Value} {s₂ : Shared} {R : Result → Shared → Prop} {Dd C : Addr}
    (EO : EnvOk c env) (ok : compOk inner c.sc [x] = true) (hk : c.k = σ.length) (hxl : inner.names.lookup x = some .local) (hA : A.handled = none)
    (K : KP h₀ s.heap) (V : Vis c s.heap env O σ) (L : Live O s.heap) (hit : Iter prog w s O ds it s₂)
    (hev : compM (fun d => ev Φ cond (σ ++ [some d])) (fun d => ev Φ elt (σ ++ [some d])) ds = some out)
    (hC : ∀ (O' : List Addr) (E' : Value → Shared → Prop) (s' : Shared) (d cv : D) (b : Bool), KP h₀ s'.heap → Live O' s'.heap → Vis (inCx c inner x) s'.heap (compEnvC inner (closL env.cells inner.names []) C env) O' (σ ++ [some d]) → ev Φ cond (σ ++ [some d]) = some cv → truth cv = some b →
      wpAny (model prog w) A (forIn ifs true fun c r => if r = true then do let ok ← isTrue c (compEnvC inner (closL env.cells inner.names []) C env) (eval c (compEnvC inner (closL env.cells inner.names []) C env)); pure (ForInStep.yield ok) else pure (ForInStep.yield r)) (fun b' s'' => b' = b ∧ Go s' s'') E' s')
    (hE : ∀ (O' : List Addr) (E' : Value → Shared → Prop) (s' : Shared) (d dv : D), KP h₀ s'.heap → Live O' s'.heap → Vis (inCx c inner x) s'.heap (compEnvC inner (closL env.cells inner.names []) C env) O' (σ ++ [some d]) → ev Φ elt (σ ++ [some d]) = some dv →
      wpAny (model prog w) A (eval eltE (compEnvC inner (closL env.cells inner.names []) C env)) (PostE s' O' dv false) E' s')
    (hDs : s₂.heap.objs.size = Dd) (hCs : Nat.succ Dd = C) {h₁ : Heap} {tk₁ : Nat} (hh₁ : KP s₂.heap h₁) (hD : IsL h₁ Dd #[] 0) (hn : ∃ m, h₁.Ns C m)
    (hR : ∀ h' tk, (∃ m, h'.Ns C m) → PostE s O (.list out) true (.ref Dd) { s with heap := h', toks := tk } → R (.ok .next) { s with heap := h', toks := tk }) :
    codeAny (model prog w) A (.compLoop (.ListComp eltE [⟨.Name x px, itE, ifs, 0⟩] inner pos) 0 it (.ref Dd) (compEnvC inner (closL env.cells inner.names []) C env)) R { s with heap := h₁, toks := tk₁ } := by
  obtain ⟨hds, g, I, fp, P, St, rfl, W, hlive, hst, hIn, hIlt, ⟨oI, hoI, hoI'⟩, hfp, hP⟩ := hit
  have hW := W A hA
  have k2 : KP s.heap s₂.heap := g.kp
  rw [hDs] at hIlt
  have lt2 : ∀ {b : Nat} {o : Obj}, s₂.heap.get? b = some o → b < Dd := fun e => hDs ▸ Heap.lt_size e
  have fpl : ∀ b ∈ fp, b < Dd := fun b hb => by
    rcases hfp b hb with rfl | ⟨_, o, _, _, e, _⟩
    · exact hIlt
    · exact lt2 (k2 b o e)
  have hDI : Dd ≠ I := Nat.ne_of_gt hIlt
  have hDC : Dd ≠ C := hCs ▸ Nat.ne_of_lt (Nat.lt_succ_self _)
  have hCI : C ≠ I := hCs ▸ Nat.ne_of_gt (Nat.lt_succ_of_lt hIlt)
  have hltC : ∀ {b : Nat}, b < Dd → b ≠ C := fun h => hCs ▸ Nat.ne_of_lt (Nat.lt_succ_of_lt h)
  have hCf : C ∉ fp := fun hm => hltC (fpl _ hm) rfl
  have hDf : Dd ∉ fp := fun hm => Nat.lt_irrefl _ (fpl _ hm)
  have hkx : (compEnvC inner (closL env.cells inner.names []) C env).kindOf x = some .local := lookup_relabel_local hxl
  have hp : ((compEnvC inner (closL env.cells inner.names []) C env).scope.kind == .class || ((compEnvC inner (closL env.cells inner.names []) C env).scope.kind == .module && (compEnvC inner (closL env.cells inner.names []) C env).locals != (compEnvC inner (closL env.cells inner.names []) C env).globals)) = false := by
    have : (compEnvC inner (closL env.cells inner.names []) C env).scope.kind = .function := (compOk_parts ok).1
    rw [this]; rfl
  have old : ∀ b o, s.heap.get? b = some o → b ≠ I ∧ b ≠ Dd ∧ b ≠ C := fun b o e => by
    have hb : b < Dd := lt2 (k2 b o e)
    refine ⟨fun q => ?_, Nat.ne_of_lt hb, hltC hb⟩
    rw [q, hIn] at e; cases e
  obtain ⟨m₁, hm₁⟩ := hn
  refine codeAny_compLoop_tests (CInv s s₂ St I C Dd O (compM (fun d => ev Φ cond (σ ++ [some d])) (fun d => ev Φ elt (σ ++ [some d]))) ds out) ?_ (ds.length + 1)
    ⟨h₁, tk₁, rfl, 0, m₁, #[], 0, [], [], out, rfl, Nat.zero_le _, hW.frame 0 _ _ hst fun b _ o e => hh₁ b o e, fun b o _ e => hh₁ b o e, ⟨oI, hh₁ _ _ hoI⟩, hm₁, hD, Nat.le_refl _, .nil, off_nil, by simpa using hev, rfl⟩
  rintro n s' ⟨h', tk, rfl, i, m, ys, nn, acc, fq, rest, rfl, hi, hst', hk', ⟨oi, hoi⟩, hn', hD', hys, racc, offq, hev', hout⟩
  have hDfq := (Off.tail offq).2
  have hIfq := (Off.tail (Off.tail offq).1).2
  have offO := (Off.tail (Off.tail offq).1).1
  have hCfq := ns_not_seq hn' racc
  by_cases hlt : i < ds.length
  · refine hW.item i _ _ _ hlt hst' fun v h₂ tk₂ hPv hst₂ hk₂ => ?_
    obtain ⟨d, fd, hd, rd, od, hIfd⟩ := hP i v hlt hPv
    have hdrop : ds.drop i = d :: ds.drop (i + 1) := by
      rw [List.drop_eq_getElem_cons hlt]
      congr 1
      rw [List.getElem?_eq_getElem hlt] at hd
      exact Option.some.inj hd
    rw [hdrop] at hev'
    obtain ⟨cv, b, ec, et, hcase⟩ := compM_step hev'
    refine wpAny_assign_Name (wpAny_storeName_local hkx (hn'.at' fun o e => hk₂ _ o (fun hm => hCI (by simpa using hm)) e) (fun h₃ hn₃ hs₃ => ?_) hp)
    have up₃ : ∀ b o, b ≠ I → b ≠ C → h'.get? b = some o → h₃.get? b = some o := fun b o b1 b2 e => hs₃.extBut b o b2 (hk₂ b o (by simpa using b1) e)
    have hst₃ : St (i + 1) h₃ := hW.frame _ _ _ hst₂ fun b hb o e => hs₃.extBut b o (fun q => hCf (by rw [← show b = C from q]; exact hb)) e
    have k3 : ∀ b o, b ≠ I → s₂.heap.get? b = some o → h₃.get? b = some o := fun b o b1 e => up₃ b o b1 (hltC (lt2 e)) (hk' b o b1 e)
    have ks3 : KP s.heap h₃ := fun b o e => k3 b o (old b o e).1 (k2 b o e)
    have rd₃ : Rd h₃ v d fd := rd.at fun b hb o e => k3 b o (fun q => hIfd (q ▸ hb)) e
    have hDfd : Dd ∉ fd := fun hm => by
      obtain ⟨o, e⟩ := rd.live Dd hm
      exact Nat.lt_irrefl _ (lt2 e)
    have od' : Off fd (Dd :: I :: O) := off_cons (off_cons od hIfd) hDfd
    have V₃ : Vis c h₃ env (Dd :: I :: O) σ := fun y j dy h1 h2 => by
      obtain ⟨vy, fy, a1, a2, a3⟩ := V y j dy h1 h2
      refine ⟨vy, fy, a1.kp ks3, a2.kp ks3, off_cons (off_cons a3 fun hm => ?_) fun hm => ?_⟩
      · obtain ⟨o, e⟩ := a2.live I hm; exact (old I o e).1 rfl
      · obtain ⟨o, e⟩ := a2.live Dd hm; exact (old Dd o e).2.1 rfl
    have Vi := inner_vis EO ok (fun z hz hne => absurd (by simpa using hz) hne) hk hxl V₃ hn₃ (by simp) rd₃ od'
    have hD₃ : IsL h₃ Dd ys nn := up₃ _ _ hDI hDC hD'
    have racc₃ : Rds h₃ ys.toList acc fq := racc.at fun b hb o e => up₃ b o (fun q => hIfq (q ▸ hb)) (fun q => hCfq (q ▸ hb)) e
    obtain ⟨oi₃, hoi₃, _⟩ := hlive _ _ hst₃
    have L₃ : Live (Dd :: I :: O) h₃ := fun b hb => by
      rcases List.mem_cons.mp hb with rfl | hb
      · exact ⟨_, hD₃⟩
      · rcases List.mem_cons.mp hb with rfl | hb
        · exact ⟨_, hoi₃⟩
        · obtain ⟨o, e⟩ := L b hb; exact ⟨o, ks3 b o e⟩
    refine wpAny_mono (hC (Dd :: I :: O) _ { s with heap := h₃, toks := tk₂ + 1 } d cv b (KP.trans K ks3) L₃ Vi ec et) (fun b' s₄ h₄ => ?_) fun _ _ e => e
    obtain ⟨rfl, h₄, tk₄, rfl, k4⟩ := h₄
    have after : ∀ (h₅ : Heap) (tk₅ : Nat) (ys' : Array Value) (nn' : Nat) (acc' : List D) (fq' : List Addr) (rest' : List D), (∀ b o, b ≠ Dd → h₄.get? b = some o → h₅.get? b = some o) → IsL h₅ Dd ys' nn' → ys'.size ≤ i + 1 → Rds h₅ ys'.toList acc' fq' → Off fq' (Dd :: I :: O) →
        compM (fun d => ev Φ cond (σ ++ [some d])) (fun d => ev Φ elt (σ ++ [some d])) (ds.drop (i + 1)) = some rest' → out = acc' ++ rest' →
        ∃ m, m < ds.length + 1 - i ∧ CInv s s₂ St I C Dd O (compM (fun d => ev Φ cond (σ ++ [some d])) (fun d => ev Φ elt (σ ++ [some d]))) ds out m { s with heap := h₅, toks := tk₅ } := by
      intro h₅ tk₅ ys' nn' acc' fq' rest' k5 hD5 hys5 racc5 off5 hev5 hout5
      refine ⟨ds.length + 1 - (i + 1), by omega, h₅, tk₅, rfl, i + 1, _, ys', nn', acc', fq', rest', rfl, hlt, hW.frame _ _ _ hst₃ fun b hb o e => k5 b o (fun q => hDf (by rw [← show b = Dd from q]; exact hb)) (k4 b o e), fun b o b1 e => k5 b o (Nat.ne_of_lt (lt2 e)) (k4 b o (k3 b o b1 e)),
        ⟨oi₃, k5 I _ (Ne.symm hDI) (k4 I _ hoi₃)⟩, (hn₃.keeps k4).at' fun o e => k5 C o (Ne.symm hDC) e, hD5, hys5, racc5, off5, hev5, hout5⟩
    rcases hcase with ⟨rfl, dv, vs', e1, e2, rfl⟩ | ⟨rfl, e2⟩
    · rw [if_pos rfl]
      have Vi4 := Vi.kp k4
      refine wpAny_mono (hE (Dd :: I :: O) _ { s with heap := h₄, toks := tk₄ } d dv (KP.trans (KP.trans K ks3) k4) (L₃.kp k4) Vi4 e1) (fun y s₅ h₅ => ?_) fun _ _ e => e
      obtain ⟨⟨h₅, tk₅, rfl, k5⟩, ⟨fy, ry, oy⟩, _⟩ := h₅
      have hD5 : IsL h₅ Dd ys nn := k5 _ _ (k4 _ _ hD₃)
      refine wpAny_list_append_plain (hsz := by rw [sizeL]; omega) ⟨nn, hD5⟩ fun h₆ hl₆ hs₆ => ?_
      obtain ⟨nn', hl₆⟩ := hl₆
      have hDy := (Off.tail oy).2
      refine after h₆ tk₅ (ys.push y) nn' (acc ++ [dv]) (fq ++ (fy ++ [])) vs' (fun b o b1 e => hs₆.extBut b o b1 (k5 b o e)) hl₆ (by rw [Array.size_push]; omega) ?_ ?_ e2 (by rw [hout]; simp)
      · rw [Array.toList_push]
        exact ((racc₃.kp (KP.trans k4 k5)).append (.cons ry .nil)).at fun b hb o e => hs₆.extBut b o (fun q => by
          rcases List.mem_append.mp hb with hb | hb
          · exact hDfq (q ▸ hb)
          · exact hDy (q ▸ (by simpa using hb))) e
      · intro b hb
        rcases List.mem_append.mp hb with hb | hb
        · exact offq b hb
        · exact oy b (by simpa using hb)
    · rw [if_neg Bool.false_ne_true]
      exact after h₄ tk₄ ys nn acc fq rest (fun b o _ e => e) (k4 _ _ hD₃) (by omega) (racc₃.kp k4) offq e2 hout
  · have hin : i = ds.length := by omega
    refine hW.done _ _ _ (hin ▸ hst') fun h₂ tk₂ hk₂ => ?_
    have hrest : rest = [] := by
      rw [hin, List.drop_length] at hev'
      simpa [compM] using hev'.symm
    subst hrest
    rw [List.append_nil] at hout
    subst hout
    have up₂ : ∀ b o, b ≠ I → h'.get? b = some o → h₂.get? b = some o := fun b o b1 e => hk₂ b o (by simpa using b1) e
    have ks : KP s.heap h₂ := fun b o e => up₂ b o (old b o e).1 (hk' b o (old b o e).1 (k2 b o e))
    have hD₂ : IsL h₂ Dd ys nn := up₂ _ _ hDI hD'
    have r₂ : Rds h₂ ys.toList out fq := racc.at fun b hb o e => up₂ b o (fun q => hIfq (q ▸ hb)) e
    refine hR h₂ tk₂ ⟨m, hn'.at' fun o e => up₂ C o hCI e⟩ ⟨⟨h₂, tk₂, rfl, ks⟩, ⟨_, .list (by omega) hD₂ r₂, fun b hb => ?_⟩, fun _ l e => ?_⟩
    · rcases List.mem_cons.mp hb with rfl | hb
      · intro hm
        obtain ⟨o, e⟩ := L b hm
        exact (old b o e).2.1 rfl
      · exact offO b hb
    · cases e
      refine ⟨Dd, ys, nn, fq, rfl, ?_, by omega, hD₂, r₂, hDfq, offO⟩
      cases e : s.heap.get? Dd with
      | none => rfl
      | some o => exact absurd rfl (old Dd o e).2.1
end
end Mine
namespace Mine
open PySem PySem.SeqAt PyProof.Rows PySem.Calls

theorem notSet_fold {it : Expr} {env : Env} (h : notSet it = true) (x : Value) : foldedSetIterable it env x = pure x := by
  cases it <;> first | rfl | simp [notSet] at h

section
variable {prog : Program} {w : World} {A : Around} {E : Value → Shared → Prop} {s : Shared} {mg mb : Str → Option Value} {h₀ : Heap} {c : Cx} {env : Env} {O : List Addr} {σ : List (Option D)} {inner : Scope} {x : Str}

/-- a comprehension of one clause -/
theorem s_comp {eltE itE : Expr} {px pos pos' : Pos} {ifs : List Expr} {elt cond : X} {ds out : List D} {Φ : List (List D → Option D)} {use : Option (Value → Sem Unit)} {Q : Value → Shared → Prop}
    (EO : EnvOk c env) (ok : compOk inner c.sc [x] = true) (hns : notSet itE = true) (hk : c.k = σ.length) (hxl : inner.names.lookup x = some .local) (hA : A.handled = none)
    (K : KP h₀ s.heap) (V : Vis c s.heap env O σ) (L : Live O s.heap)
    (hev : compM (fun d => ev Φ cond (σ ++ [some d])) (fun d => ev Φ elt (σ ++ [some d])) ds = some out)
    (hI : wpAny (model prog w) A (eval itE env) (fun xv s₁ => wpAny (model prog w) A (pyIter xv) (fun it s₂ => ∃ s', Go s s' ∧ Iter prog w s' O ds it s₂) E s₁) E s)
    (hC : ∀ (C : Addr) (O' : List Addr) (E' : Value → Shared → Prop) (s' : Shared) (d cv : D) (b : Bool), KP h₀ s'.heap → Live O' s'.heap → Vis (inCx c inner x) s'.heap (compEnvC inner (closL env.cells inner.names []) C env) O' (σ ++ [some d]) → ev Φ cond (σ ++ [some d]) = some cv → truth cv = some b →
      wpAny (model prog w) A (forIn ifs true fun c r => if r = true then do let ok ← isTrue c (compEnvC inner (closL env.cells inner.names []) C env) (eval c (compEnvC inner (closL env.cells inner.names []) C env)); pure (ForInStep.yield ok) else pure (ForInStep.yield r)) (fun b' s'' => b' = b ∧ Go s' s'') E' s')
    (hE : ∀ (C : Addr) (O' : List Addr) (E' : Value → Shared → Prop) (s' : Shared) (d dv : D), KP h₀ s'.heap → Live O' s'.heap → Vis (inCx c inner x) s'.heap (compEnvC inner (closL env.cells inner.names []) C env) O' (σ ++ [some d]) → ev Φ elt (σ ++ [some d]) = some dv →
      wpAny (model prog w) A (eval eltE (compEnvC inner (closL env.cells inner.names []) C env)) (PostE s' O' dv false) E' s')
    (hQ : ∀ (acc : Value) (C : Addr) (s' : Shared), PostE s O (.list out) true acc s' → s.heap.get? C = none → (∃ m, s'.heap.Ns C m) → compPost (model prog w) A E use Q acc C (.ok .next) s') :
    wpAny (model prog w) A (comprehension (.ListComp eltE [⟨.Name x px, itE, ifs, 0⟩] inner pos) inner env pos' (newList []) false (eval itE env) use) Q E s := by
  obtain ⟨hkind, hloc, hcell, hnames, hfree⟩ := compOk_parts ok
  refine wpAny_comprehension_free (cl := closL env.cells inner.names []) (g := ⟨.Name x px, itE, ifs, 0⟩) (gs := []) rfl (notSet_fold hns) (closure_eq fun y hy e => EO.cells y.1 (hfree y hy e)) hkind hnames ?_
  refine wpAny_mono hI (fun xv s₁ h₁ => wpAny_mono h₁ (fun it s₂ h₂ => ?_) fun _ _ e => e) fun _ _ e => e
  obtain ⟨s₀, g0, hit⟩ := h₂
  have g2 : Go s₀ s₂ := by cases hit; assumption
  have g02 := g0.trans g2
  obtain ⟨hh2, tk2, e2, k2⟩ := g02
  refine wpAny_newObj_type (wpAny_newFunctionEnv hcell (by intro y hy; simp at hy) (fun h₁ hns₁ hsb₁ => ?_) hkind)
  dsimp only at hns₁ hsb₁ ⊢
  have hD1 : (s₂.heap.push { cls := .type "list", data := .seq ([] : List Value).toArray }).objs.size = Nat.succ s₂.heap.objs.size := by rw [Heap.size_push]
  have fresh : ∀ a : Addr, s₂.heap.objs.size ≤ a → s₂.heap.get? a = none := fun a ha => by
    cases e : s₂.heap.get? a with
    | none => rfl
    | some o' => exact absurd (Heap.lt_size e) (Nat.not_lt.mpr ha)
  have k21 : KP s₂.heap h₁ := fun b o e => hsb₁.extBut b o (by rw [hD1]; exact Nat.ne_of_lt (Nat.lt_succ_of_lt (Heap.lt_size e))) (Heap.get?_push_of_some _ (Heap.get?_push_of_some _ e))
  have hacc : IsL h₁ s₂.heap.objs.size #[] 0 := hsb₁.extBut _ _ (by rw [hD1]; exact Nat.ne_of_lt (Nat.lt_succ_self _)) (Heap.get?_push_of_some _ (Heap.get?_push_size _ rfl))
  have K0 : KP h₀ s₀.heap := KP.trans K g0.kp
  have V0 := V.kp g0.kp
  have L0 := L.kp g0.kp
  have es : ({ s₂ with heap := h₁, toks := s₂.toks + ([] : List (Str × Value)).length } : Shared) = { s₀ with heap := h₁, toks := s₂.toks + ([] : List (Str × Value)).length } := by
    obtain ⟨hq, tq, rfl, _⟩ := g2; rfl
  have loop : codeAny (model prog w) A (.compLoop (.ListComp eltE [⟨.Name x px, itE, ifs, 0⟩] inner pos) 0 it (.ref s₂.heap.objs.size) (compEnvC inner (closL env.cells inner.names []) (Nat.succ s₂.heap.objs.size) env))
      (compPost (model prog w) A E use Q (.ref s₂.heap.objs.size) (Nat.succ s₂.heap.objs.size)) { s₀ with heap := h₁, toks := s₂.toks + ([] : List (Str × Value)).length } := by
    refine s_compLoop EO ok hk hxl hA K0 V0 L0 hit hev (hC _) (hE _) rfl rfl k21 hacc ⟨_, hD1 ▸ hns₁⟩ fun h' tk hn hp => ?_
    have hp' : PostE s O (.list out) true (.ref s₂.heap.objs.size) { s₀ with heap := h', toks := tk } := PostE.lift g0 hp
    refine hQ _ _ _ hp' ?_ hn
    cases e : s.heap.get? (Nat.succ s₂.heap.objs.size) with
    | none => rfl
    | some o =>
      have := fresh (Nat.succ s₂.heap.objs.size) (Nat.le_succ _)
      rw [g2.kp _ _ (g0.kp _ _ e)] at this; cases this
  rw [es]
  obtain ⟨_, gI, I, fp, P, St, rfl, W, hlive, hst, _⟩ := hit
  have hst₁ : St 0 h₁ := (W A hA).frame _ _ _ hst fun b _ o e => k21 b o e
  have hcl : (newEnv inner (s₂.heap.push { cls := .type "list", data := .seq ([] : List Value).toArray }).objs.size env.globals (closL env.cells inner.names []) env.qual none Value.none (some env) builtinsNs).locals = Nat.succ s₂.heap.objs.size := hD1
  have hce : ({ newEnv inner (s₂.heap.push { cls := .type "list", data := .seq ([] : List Value).toArray }).objs.size env.globals (closL env.cells inner.names []) env.qual none Value.none (some env) builtinsNs with scope := relabel inner env } : Env) = compEnvC inner (closL env.cells inner.names []) (Nat.succ s₂.heap.objs.size) env := by
    rw [hD1]; rfl
  show codeAny _ _ (.compStart _ 0 _ _ { newEnv inner (s₂.heap.push { cls := .type "list", data := .seq ([] : List Value).toArray }).objs.size env.globals (closL env.cells inner.names []) env.qual none Value.none (some env) builtinsNs with scope := relabel inner env }) (compPost _ _ _ _ _ _ (newEnv inner (s₂.heap.push { cls := .type "list", data := .seq ([] : List Value).toArray }).objs.size env.globals (closL env.cells inner.names []) env.qual none Value.none (some env) builtinsNs).locals) _
  rw [hcl, hce]
  exact codeAny_compStart_list loop ((W A hA).self 0 _ _ _ hst₁ loop)

/-- the comprehension's own names go -/
theorem post_comp {acc : Value} {C : Addr} {out : List D} {s' : Shared} (hp : PostE s O (.list out) true acc s') (hC' : s.heap.get? C = none) (hn : ∃ m, s'.heap.Ns C m) :
    compPost (model prog w) A E none (PostE s O (.list out) true) acc C (.ok .next) s' := by
  obtain ⟨m, hn⟩ := hn
  refine ⟨m, hn, fun h' hs' => ?_⟩
  obtain ⟨⟨h1, t1, rfl, k1⟩, ⟨fp, r, o⟩, hf⟩ := hp
  have hCf := ns_not_seq1 hn r
  have kC : ∀ b ob, b ≠ C → h1.get? b = some ob → h'.get? b = some ob := fun b ob hb e => hs'.extBut b ob hb e
  refine ⟨⟨h', t1, rfl, fun b ob e => kC b ob (fun q => by rw [q, hC'] at e; cases e) (k1 b ob e)⟩, ⟨fp, r.at fun b hb ob e => kC b ob (fun q => hCf (q ▸ hb)) e, o⟩, fun q l e => ?_⟩
  obtain ⟨a, vs, n, fq, h1', h2', h3', h4', h5', h6', h7'⟩ := hf q l e
  refine ⟨a, vs, n, fq, h1', h2', h3', kC _ _ (fun q => ?_) h4', h5'.at fun b hb ob e => kC b ob (fun q => ns_not_seq hn h5' (q ▸ hb)) e, h6', h7'⟩
  obtain ⟨oL, _, _, hL, hLd, _⟩ := hn
  rw [← q] at hL
  rw [show h1.get? a = _ from h4'] at hL
  cases hL
  cases hLd

/-- .. as an expression -/
theorem s_compE {eltE itE : Expr} {px pos : Pos} {ifs : List Expr} {elt cond : X} {ds out : List D} {Φ : List (List D → Option D)}
    (EO : EnvOk c env) (ok : compOk inner c.sc [x] = true) (hns : notSet itE = true) (hk : c.k = σ.length) (hxl : inner.names.lookup x = some .local) (hA : A.handled = none)
    (K : KP h₀ s.heap) (V : Vis c s.heap env O σ) (L : Live O s.heap)
    (hev : compM (fun d => ev Φ cond (σ ++ [some d])) (fun d => ev Φ elt (σ ++ [some d])) ds = some out)
    (hI : wpAny (model prog w) A (eval itE env) (fun xv s₁ => wpAny (model prog w) A (pyIter xv) (fun it s₂ => ∃ s', Go s s' ∧ Iter prog w s' O ds it s₂) E s₁) E s)
    (hC : ∀ (C : Addr) (O' : List Addr) (E' : Value → Shared → Prop) (s' : Shared) (d cv : D) (b : Bool), KP h₀ s'.heap → Live O' s'.heap → Vis (inCx c inner x) s'.heap (compEnvC inner (closL env.cells inner.names []) C env) O' (σ ++ [some d]) → ev Φ cond (σ ++ [some d]) = some cv → truth cv = some b →
      wpAny (model prog w) A (forIn ifs true fun c r => if r = true then do let ok ← isTrue c (compEnvC inner (closL env.cells inner.names []) C env) (eval c (compEnvC inner (closL env.cells inner.names []) C env)); pure (ForInStep.yield ok) else pure (ForInStep.yield r)) (fun b' s'' => b' = b ∧ Go s' s'') E' s')
    (hE : ∀ (C : Addr) (O' : List Addr) (E' : Value → Shared → Prop) (s' : Shared) (d dv : D), KP h₀ s'.heap → Live O' s'.heap → Vis (inCx c inner x) s'.heap (compEnvC inner (closL env.cells inner.names []) C env) O' (σ ++ [some d]) → ev Φ elt (σ ++ [some d]) = some dv →
      wpAny (model prog w) A (eval eltE (compEnvC inner (closL env.cells inner.names []) C env)) (PostE s' O' dv false) E' s') :
    wpAny (model prog w) A (eval (.ListComp eltE [⟨.Name x px, itE, ifs, 0⟩] inner pos) env) (PostE s O (.list out) true) E s := by
  show wpAny (model prog w) A (comprehension (.ListComp eltE [⟨.Name x px, itE, ifs, 0⟩] inner pos) inner env _ (newList []) false (eval itE env) none) _ _ s
  exact s_comp (use := none) EO ok hns hk hxl hA K V L hev hI hC hE fun acc C s' hp hC' hn => post_comp hp hC' hn
end
end Mine
namespace Mine
open PySem PySem.SeqAt PyProof.Rows PySem.Calls

theorem fn_get : ∀ {fns : List Str} {x : Str} {k i : Nat}, fn? fns x k = some i → k ≤ i ∧ fns[i - k]? = some x
  | [], _, _, _, h => by simp [fn?] at h
  | y :: r, x, k, i, h => by
    unfold fn? at h
    split at h
    · rename_i e
      cases h
      have : y = x := by simpa using e
      subst this
      exact ⟨Nat.le_refl _, by simp⟩
    · obtain ⟨h1, h2⟩ := fn_get h
      have ej : i - k = (i - (k + 1)) + 1 := by omega
      exact ⟨by omega, by rw [ej, List.getElem?_cons_succ]; exact h2⟩

theorem cE_plain {n : Nat} {c : Cx} {e : Expr} {x : X} {env : Env} (h : cE n c e = some x) (r : List Expr) : starEach (e :: r) env = (false, eval e env) :: starEach r env := by
  cases e <;> first
    | rfl
    | (cases n <;> exact no h)

theorem cE_base {n : Nat} {c : Cx} {e : Expr} {x : X} {env : Env} (h : cE n c e = some x) (name : Str) : attributeBase e name env (eval e env) = eval e env := by
  unfold attributeBase
  split
  · rename_i id p1 pos
    exfalso
    cases n with
    | zero => exact no h
    | succ n =>
      replace h : (if id = "len" then (if c.builtin id then none else none) else if id = "isinstance" then (if c.builtin id then none else none) else none) = some x := h
      split at h
      · split at h <;> exact no h
      · split at h
        · split at h <;> exact no h
        · exact no h
  · rfl
theorem cE_notSet {n : Nat} {c : Cx} {e : Expr} {x : X} (h : cE n c e = some x) : notSet e = true := by
  cases e <;> first
    | rfl
    | (cases n <;> exact no h)
theorem cE_notSlice {n : Nat} {c : Cx} {e : Expr} {x : X} (h : cE n c e = some x) : notSlice e = true := by
  cases e <;> first
    | rfl
    | (cases n <;> exact no h)

section
variable {prog : Program} {w : World} {A : Around} {E : Value → Shared → Prop} {s : Shared} {env : Env}

theorem wp_sliceObj {lo hi : Option Expr} {p : Pos} {Q : Value → Shared → Prop}
    (h : wpAny (model prog w) A (valueOrNone (evalOpt lo env)) (fun l s₁ => wpAny (model prog w) A (valueOrNone (evalOpt hi env)) (fun u s₂ =>
      Q (.ref s₂.heap.objs.size) { s₂ with heap := s₂.heap.push { cls := .type "slice", data := .fields #[l, u, .none] } }) E s₁) E s) :
    wpAny (model prog w) A (eval (.Slice lo hi none p) env) Q E s := by
  rw [arm_eval_Slice]
  refine wpAny_bind (wpAny_mono h (fun l s₁ h₁ => wpAny_bind (wpAny_holding (wpAny_mono h₁ (fun u s₂ h₂ => ?_) fun _ _ e => e))) fun _ _ e => e)
  refine wpAny_bind (wpAny_holding (wpAny_pure ?_))
  exact wpAny_newObj_type h₂ (by show 3 ≤ sizeLine + 2; decide)
theorem wp_sliceRev {st : Expr} {p : Pos} {Q : Value → Shared → Prop} (hst : isMinus1 st = true)
    (h : ∀ t k, Q (.ref s.heap.objs.size) { s with heap := s.heap.push { cls := .type "slice", data := .fields #[.none, .none, .int (-1) t] }, toks := k }) :
    wpAny (model prog w) A (eval (.Slice none none (some st) p) env) Q E s := by
  rw [arm_eval_Slice]
  refine wpAny_bind (wpAny_pure (wpAny_bind (wpAny_holding (wpAny_pure (wpAny_bind (wpAny_holding ?_))))))
  unfold isMinus1 at hst
  split at hst
  · show wpAny _ _ (eval (.UnaryOp .USub (.Constant (.int 1) _ _) _) env) _ _ _
    rw [arm_eval_UnaryOp]
    refine wpAny_bind (wpAny_mkInt (wpAny_bind (wpAny_standAt (wpAny_holding (P.neg_int ?_)))))
    exact wpAny_newObj_type (h _ _) (by show 3 ≤ sizeLine + 2; decide)
  · cases hst

theorem wp_ifexp {t a b : Expr} {p : Pos} {Q : Value → Shared → Prop} (h : wpAny (model prog w) A (isTrue t env (eval t env)) (fun c s₁ => if c = true then wpAny (model prog w) A (eval a env) Q E s₁ else wpAny (model prog w) A (eval b env) Q E s₁) E s) :
    wpAny (model prog w) A (eval (.IfExp t a b p) env) Q E s := by
  rw [arm_eval_IfExp]
  exact wpAny_bind (wpAny_mono h (fun c s₁ h₁ => wpAny_ite h₁) fun _ _ e => e)
theorem wp_isTrue_ifexp {t a b : Expr} {p : Pos} {wh : Sem Value} {Q : Bool → Shared → Prop} (h : wpAny (model prog w) A (isTrue t env (eval t env)) (fun c s₁ => if c = true then wpAny (model prog w) A (isTrue a env (eval a env)) Q E s₁ else wpAny (model prog w) A (isTrue b env (eval b env)) Q E s₁) E s) :
    wpAny (model prog w) A (isTrue (.IfExp t a b p) env wh) Q E s := by
  rw [arm_isTrue_IfExp]
  exact wpAny_bind (wpAny_mono h (fun c s₁ h₁ => wpAny_ite h₁) fun _ _ e => e)

/-- a comparison by one operator, and its test -/
theorem wp_cmp1 {l r : Expr} {op : CmpOp} {p : Pos} {Q : Value → Shared → Prop} (hr : notSet r = true)
    (h : wpAny (model prog w) A (eval l env) (fun a s₁ => wpAny (model prog w) A (eval r env) (fun b s₂ => wpAny (model prog w) A (compareOp op a b) Q E s₂) E s₁) E s) :
    wpAny (model prog w) A (eval (.Compare l [op] [r] p) env) Q E s := by
  rw [arm_eval_Compare]
  refine wpAny_bind (wpAny_mono h (fun a s₁ h₁ => ?_) fun _ _ e => e)
  have e : markedEach [op] [r] (evalEach [r] env) = [eval r env] := by
    show [markedBehindIn op r (eval r env)] = _
    rw [markedBehindIn_of_false (by cases r <;> first | rfl | simp [notSet] at hr)]
  rw [e]
  show wpAny _ _ (do let rv ← holding [a] (eval r env); standAt p; operate [a, rv] (compareOp op a rv)) _ _ _
  exact wpAny_bind (wpAny_holding (wpAny_mono h₁ (fun b s₂ h₂ => wpAny_bind (wpAny_standAt (wpAny_operating h₂))) fun _ _ e => e))
theorem wp_cmp2 {l r₁ r₂ : Expr} {op₁ op₂ : CmpOp} {p : Pos} {Q : Value → Shared → Prop} (hr : notSet r₂ = true)
    (h : wpAny (model prog w) A (eval l env) (fun a s₁ => wpAny (model prog w) A (eval r₁ env) (fun b s₂ => wpAny (model prog w) A (compareOp op₁ a b) (fun cv s₃ => wpAny (model prog w) A (truthy cv) (fun t s₄ =>
      if t = true then wpAny (model prog w) A (eval r₂ env) (fun b₂ s₅ => wpAny (model prog w) A (compareOp op₂ b b₂) Q E s₅) E s₄ else Q cv s₄) E s₃) E s₂) E s₁) E s) :
    wpAny (model prog w) A (eval (.Compare l [op₁, op₂] [r₁, r₂] p) env) Q E s := by
  rw [arm_eval_Compare]
  refine wpAny_bind (wpAny_mono h (fun a s₁ h₁ => ?_) fun _ _ e => e)
  have e : markedEach [op₁, op₂] [r₁, r₂] (evalEach [r₁, r₂] env) = [eval r₁ env, eval r₂ env] := by
    show [eval r₁ env, markedBehindIn op₂ r₂ (eval r₂ env)] = _
    rw [markedBehindIn_of_false (by cases r₂ <;> first | rfl | simp [notSet] at hr)]
  rw [e]
  show wpAny _ _ (do let rv ← holding [a] (eval r₁ env); standAt p; let c ← holding [a, rv] (compareOp op₁ a rv); release [a, rv] [c]; if ← holding [c, rv] (truthy c) then (do let rv' ← holding [rv] (eval r₂ env); standAt p; operate [rv, rv'] (compareOp op₂ rv rv')) else pure c) _ _ _
  refine wpAny_bind (wpAny_holding (wpAny_mono h₁ (fun b s₂ h₂ => wpAny_bind (wpAny_standAt (wpAny_bind (wpAny_holding (wpAny_mono h₂ (fun cv s₃ h₃ => ?_) fun _ _ e => e))))) fun _ _ e => e))
  refine wpAny_bind (wpAny_release (wpAny_bind (wpAny_holding (wpAny_mono h₃ (fun t s₄ h₄ => wpAny_ite ?_) fun _ _ e => e))))
  cases t with
  | true =>
    rw [if_pos rfl] at h₄ ⊢
    exact wpAny_bind (wpAny_holding (wpAny_mono h₄ (fun b₂ s₅ h₅ => wpAny_bind (wpAny_standAt (wpAny_operating h₅))) fun _ _ e => e))
  | false =>
    rw [if_neg Bool.false_ne_true] at h₄ ⊢
    exact wpAny_pure h₄
theorem wp_test1 {l r : Expr} {op : CmpOp} {p : Pos} {wh : Sem Value} {Q : Bool → Shared → Prop} (hr : notSet r = true)
    (h : wpAny (model prog w) A (eval l env) (fun a s₁ => wpAny (model prog w) A (eval r env) (fun b s₂ => wpAny (model prog w) A (compareOp op a b) (fun cv s₃ => wpAny (model prog w) A (truthy cv) Q E s₃) E s₂) E s₁) E s) :
    wpAny (model prog w) A (isTrue (.Compare l [op] [r] p) env wh) Q E s := by
  rw [arm_isTrue_Compare]
  refine wpAny_bind (wpAny_mono h (fun a s₁ h₁ => ?_) fun _ _ e => e)
  have e : markedEach [op] [r] (evalEach [r] env) = [eval r env] := by
    show [markedBehindIn op r (eval r env)] = _
    rw [markedBehindIn_of_false (by cases r <;> first | rfl | simp [notSet] at hr)]
  rw [e]
  show wpAny _ _ (do let rv ← holding [a] (eval r env); standAt p; let c ← operate [a, rv] (compareOp op a rv); holding [c] (truthy c)) _ _ _
  exact wpAny_bind (wpAny_holding (wpAny_mono h₁ (fun b s₂ h₂ => wpAny_bind (wpAny_standAt (wpAny_bind (wpAny_operating (wpAny_mono h₂ (fun cv s₃ h₃ => wpAny_holding h₃) fun _ _ e => e))))) fun _ _ e => e))
theorem wp_test2 {l r₁ r₂ : Expr} {op₁ op₂ : CmpOp} {p : Pos} {wh : Sem Value} {Q : Bool → Shared → Prop} (hr : notSet r₂ = true)
    (h : wpAny (model prog w) A (eval l env) (fun a s₁ => wpAny (model prog w) A (eval r₁ env) (fun b s₂ => wpAny (model prog w) A (compareOp op₁ a b) (fun cv s₃ => wpAny (model prog w) A (truthy cv) (fun t s₄ =>
      if t = true then wpAny (model prog w) A (eval r₂ env) (fun b₂ s₅ => wpAny (model prog w) A (compareOp op₂ b b₂) (fun cv s₆ => wpAny (model prog w) A (truthy cv) Q E s₆) E s₅) E s₄ else Q false s₄) E s₃) E s₂) E s₁) E s) :
    wpAny (model prog w) A (isTrue (.Compare l [op₁, op₂] [r₁, r₂] p) env wh) Q E s := by
  rw [arm_isTrue_Compare]
  refine wpAny_bind (wpAny_mono h (fun a s₁ h₁ => ?_) fun _ _ e => e)
  have e : markedEach [op₁, op₂] [r₁, r₂] (evalEach [r₁, r₂] env) = [eval r₁ env, eval r₂ env] := by
    show [eval r₁ env, markedBehindIn op₂ r₂ (eval r₂ env)] = _
    rw [markedBehindIn_of_false (by cases r₂ <;> first | rfl | simp [notSet] at hr)]
  rw [e]
  show wpAny _ _ (do let rv ← holding [a] (eval r₁ env); standAt p; let c ← holding [a, rv] (compareOp op₁ a rv); release [a, rv] [c]; if ← holding [c, rv] (truthy c) then (do let rv' ← holding [rv] (eval r₂ env); standAt p; let c' ← operate [rv, rv'] (compareOp op₂ rv rv'); holding [c'] (truthy c')) else pure false) _ _ _
  refine wpAny_bind (wpAny_holding (wpAny_mono h₁ (fun b s₂ h₂ => wpAny_bind (wpAny_standAt (wpAny_bind (wpAny_holding (wpAny_mono h₂ (fun cv s₃ h₃ => ?_) fun _ _ e => e))))) fun _ _ e => e))
  refine wpAny_bind (wpAny_release (wpAny_bind (wpAny_holding (wpAny_mono h₃ (fun t s₄ h₄ => wpAny_ite ?_) fun _ _ e => e))))
  cases t with
  | true =>
    rw [if_pos rfl] at h₄ ⊢
    exact wpAny_bind (wpAny_holding (wpAny_mono h₄ (fun b₂ s₅ h₅ => wpAny_bind (wpAny_standAt (wpAny_bind (wpAny_operating (wpAny_mono h₅ (fun cv s₆ h₆ => wpAny_holding h₆) fun _ _ e => e))))) fun _ _ e => e))
  | false =>
    rw [if_neg Bool.false_ne_true] at h₄ ⊢
    exact wpAny_pure h₄
end
end Mine
namespace Mine
open PySem PySem.SeqAt PyProof.Rows PySem.Calls

noncomputable def bnames : List Str := ["len", "range", "isinstance", "bool", "sorted"]

/-- what the mini language's functions and the module's top have in common -/
structure Tied (prog : Program) (w : World) (mg mb : Str → Option Value) (h₀ : Heap) (lv : Nat) (fns : List Str) (Φ : List (List D → Option D)) : Prop where
  base : Base mg mb h₀
  free : ∀ x ∈ bnames, fns.contains x = false → mg x = none
  fn : ∀ (i : Nat) (f : Str) (g : List D → Option D), fns[i]? = some f → Φ[i]? = some g → CallOk prog w mg h₀ lv f g

section
variable (prog : Program) (w : World) (h₀ : Heap) (lv : Nat) (fns : List Str) (Φ : List (List D → Option D))

/-- the state in which an expression is met -/
structure Here (n : Nat) (A : Around) (c : Cx) (env : Env) (s : Shared) (O : List Addr) (σ : List (Option D)) : Prop where
  rm : Rm (n + lv) A
  eo : EnvOk c env
  fs : c.fns = fns
  k : c.k = σ.length
  kp : KP h₀ s.heap
  vis : Vis c s.heap env O σ
  live : Live O s.heap

noncomputable def SE (n : Nat) : Prop := ∀ (A : Around) (E : Value → Shared → Prop) (c : Cx) (env : Env) (e : Expr) (x : X) (s : Shared) (O : List Addr) (σ : List (Option D)) (d : D), Here h₀ lv fns n A c env s O σ →
  cE n c e = some x → ev Φ x σ = some d → wpAny (model prog w) A (eval e env) (PostE s O d (fresh x)) E s
noncomputable def ST (n : Nat) : Prop := ∀ (A : Around) (E : Value → Shared → Prop) (c : Cx) (env : Env) (e : Expr) (x : X) (s : Shared) (O : List Addr) (σ : List (Option D)) (d : D) (b : Bool), Here h₀ lv fns n A c env s O σ →
  cE n c e = some x → ev Φ x σ = some d → truth d = some b → wpAny (model prog w) A (isTrue e env (eval e env)) (fun b' s' => b' = b ∧ Go s s') E s
noncomputable def SO (n : Nat) : Prop := ∀ (A : Around) (E : Value → Shared → Prop) (c : Cx) (env : Env) (e : Option Expr) (x : X) (s : Shared) (O : List Addr) (σ : List (Option D)) (d : D), Here h₀ lv fns n A c env s O σ →
  cEo n c e = some x → ev Φ x σ = some d → wpAny (model prog w) A (valueOrNone (evalOpt e env)) (PostE s O d false) E s
noncomputable def SL (n : Nat) : Prop := ∀ (A : Around) (E : Value → Shared → Prop) (c : Cx) (env : Env) (es : List Expr) (xs : List X) (s : Shared) (O : List Addr) (σ : List (Option D)) (d : D) (pos : Pos), Here h₀ lv fns n A c env s O σ →
  cEs n c es = some xs → ev Φ (argsX xs) σ = some d → es.length ≤ n ∧ (∀ r ∈ es, ∃ m x, cE m c r = some x) ∧ ∃ ds, d = .tuple ds ∧ ds.length = es.length ∧ wpAny (model prog w) A (spliced (backTo pos (starEach es env))) (fun vs s' => Go s s' ∧ ∃ fp, Rds s'.heap vs ds fp ∧ Off fp O) E s
noncomputable def SI (n : Nat) : Prop := ∀ (A : Around) (E : Value → Shared → Prop) (c : Cx) (env : Env) (e : Expr) (x : X) (s : Shared) (O : List Addr) (σ : List (Option D)) (d : D) (ds : List D), Here h₀ lv fns n A c env s O σ →
  cI n c e = some x → ev Φ x σ = some d → items d = some ds → wpAny (model prog w) A (eval e env) (fun xv s₁ => wpAny (model prog w) A (pyIter xv) (fun it s₂ => ∃ s', Go s s' ∧ Iter prog w s' O ds it s₂) E s₁) E s
noncomputable def SBe (n : Nat) : Prop := ∀ (A : Around) (E : Value → Shared → Prop) (c : Cx) (env : Env) (es : List Expr) (xs : List X) (op : BoolOp) (x : X) (pos : Pos) (s : Shared) (O : List Addr) (σ : List (Option D)) (d : D), Here h₀ lv fns n A c env s O σ →
  cEs n c es = some xs → boolX op xs = some x → ev Φ x σ = some d → wpAny (model prog w) A (boolOp pos op (evalEach es env)) (PostE s O d false) E s
noncomputable def SBt (n : Nat) : Prop := ∀ (A : Around) (E : Value → Shared → Prop) (c : Cx) (env : Env) (es : List Expr) (xs : List X) (op : BoolOp) (x : X) (s : Shared) (O : List Addr) (σ : List (Option D)) (d : D) (b : Bool), Here h₀ lv fns n A c env s O σ →
  cEs n c es = some xs → boolX op xs = some x → ev Φ x σ = some d → truth d = some b → wpAny (model prog w) A (allTrue op es env) (fun b' s' => b' = b ∧ Go s s') E s
end

section
variable {prog : Program} {w : World} {mg mb : Str → Option Value} {h₀ : Heap} {lv : Nat} {fns : List Str} {Φ : List (List D → Option D)} {n : Nat} {A : Around} {c : Cx} {env : Env} {s s' : Shared} {O : List Addr} {σ : List (Option D)}

theorem Here.down (H : Here h₀ lv fns (n + 1) A c env s O σ) : Here h₀ lv fns n A c env s O σ := ⟨H.rm.le (by omega), H.eo, H.fs, H.k, H.kp, H.vis, H.live⟩
theorem Here.go (H : Here h₀ lv fns n A c env s O σ) (g : Go s s') : Here h₀ lv fns n A c env s' O σ := ⟨H.rm, H.eo, H.fs, H.k, KP.trans H.kp g.kp, H.vis.kp g.kp, H.live.kp g.kp⟩

theorem post_bool' {b : Bool} {fr : Bool} : PostE s O (.bool b) fr (.bool b) s := post_bool (k := s.toks)

theorem two_values {E : Value → Shared → Prop} {e₁ e₂ : Expr} {x₁ x₂ : X} {d₁ d₂ : D} {Q : Value → Value → Shared → Prop} (hE : SE prog w h₀ lv fns Φ n) (H : Here h₀ lv fns n A c env s O σ)
    (c1 : cE n c e₁ = some x₁) (c2 : cE n c e₂ = some x₂) (v1 : ev Φ x₁ σ = some d₁) (v2 : ev Φ x₂ σ = some d₂)
    (hQ : ∀ a b s' f1 f2, Go s s' → Rd s'.heap a d₁ f1 → Off f1 O → Rd s'.heap b d₂ f2 → Off f2 O → Q a b s') :
    wpAny (model prog w) A (eval e₁ env) (fun a s₁ => wpAny (model prog w) A (eval e₂ env) (fun b s₂ => Q a b s₂) E s₁) E s := by
  refine wpAny_mono (hE A E c env e₁ x₁ s O σ d₁ H c1 v1) (fun a s₁ h₁ => ?_) fun _ _ e => e
  obtain ⟨g1, ⟨f1, r1, o1⟩, _⟩ := h₁
  refine wpAny_mono (hE A E c env e₂ x₂ s₁ O σ d₂ (H.go g1) c2 v2) (fun b s₂ h₂ => ?_) fun _ _ e => e
  obtain ⟨g2, ⟨f2, r2, o2⟩, _⟩ := h₂
  exact hQ a b s₂ f1 f2 (g1.trans g2) (r1.kp g2.kp) o1 r2 o2

theorem step_O (hE : SE prog w h₀ lv fns Φ n) : SO prog w h₀ lv fns Φ (n + 1) := by
  intro A E c env e x s O σ d H h hv
  cases e with
  | none => simp only [cEo, Option.some.injEq] at h; subst h; cases hv; exact wpAny_pure (post_none (k := s.toks))
  | some e =>
    simp only [cEo] at h
    exact wpAny_mono (hE A E c env e x s O σ d H.down h hv) (fun _ _ p => p.weak fun q => nomatch q) fun _ _ e => e

theorem step_L (hE : SE prog w h₀ lv fns Φ n) (hL : SL prog w h₀ lv fns Φ n) : SL prog w h₀ lv fns Φ (n + 1) := by
  intro A E c env es xs s O σ d pos H h hv
  cases es with
  | nil =>
    simp only [cEs, Option.some.injEq] at h
    subst h
    cases hv
    exact ⟨Nat.zero_le _, (fun r hr => by cases hr), [], rfl, rfl, args_nil ⟨Go.refl _, [], .nil, off_nil⟩⟩
  | cons e r =>
    simp only [cEs, Option.bind_eq_some_iff, Option.some.injEq] at h
    obtain ⟨x, h1, xs', h2, rfl⟩ := h
    simp only [argsX, ev, Option.bind_eq_some_iff, Option.some.injEq] at hv
    obtain ⟨dx, v1, ds', ⟨dr, v2, v3⟩, rfl⟩ := hv
    obtain ⟨l1, p1, ds, rfl, ld, w1⟩ := hL A E c env r xs' s O σ dr pos H.down h2 v2
    cases v3
    refine ⟨by rw [List.length_cons]; omega, fun q hq => ?_, dx :: ds', rfl, by rw [List.length_cons, List.length_cons, ld], ?_⟩
    · rcases List.mem_cons.mp hq with rfl | hq
      · exact ⟨n, x, h1⟩
      · exact p1 q hq
    · refine args_cons (wpAny_mono (hE A E c env e x s O σ dx H.down h1 v1) (fun v s₁ h₁ => ?_) fun _ _ e => e) (cE_plain h1 r)
      obtain ⟨g1, ⟨f1, r1, o1⟩, _⟩ := h₁
      obtain ⟨_, _, ds₂, e2, _, w2⟩ := hL A E c env r xs' s₁ O σ _ pos (H.down.go g1) h2 v2
      cases e2
      refine wpAny_mono w2 (fun vs s₂ h₂ => ?_) fun _ _ e => e
      obtain ⟨g2, fp, rs, os⟩ := h₂
      exact ⟨g1.trans g2, _, .cons (r1.kp g2.kp) rs, fun b hb => (List.mem_append.mp hb).elim (o1 b) (os b)⟩

theorem bool_single {op : BoolOp} {x z : X} (h : boolX op [x] = some z) : z = x := by
  cases op <;> (simp only [boolX, Option.some.injEq] at h; exact h.symm)

theorem step_Be (hE : SE prog w h₀ lv fns Φ n) (hB : SBe prog w h₀ lv fns Φ n) : SBe prog w h₀ lv fns Φ (n + 1) := by
  intro A E c env es xs op z pos s O σ d H h hb hv
  cases es with
  | nil => simp only [cEs, Option.some.injEq] at h; subst h; cases op <;> simp [boolX] at hb
  | cons e r =>
    simp only [cEs, Option.bind_eq_some_iff, Option.some.injEq] at h
    obtain ⟨x, h1, xs', h2, rfl⟩ := h
    cases r with
    | nil =>
      have : xs' = [] := by
        cases n with
        | zero => exact no h2
        | succ n => simpa [cEs] using h2.symm
      subst this
      obtain rfl := bool_single hb
      show wpAny _ _ (boolOp pos op [eval e env]) _ _ _
      exact wpAny_mono (hE A E c env e _ s O σ d H.down h1 hv) (fun _ _ p => p.weak fun q => nomatch q) fun _ _ e => e
    | cons e₂ r =>
      have hne : ∃ y ys, xs' = y :: ys := by
        cases n with
        | zero => exact no h2
        | succ n =>
          simp only [cEs, Option.bind_eq_some_iff, Option.some.injEq] at h2
          obtain ⟨y, _, ys, _, rfl⟩ := h2
          exact ⟨y, ys, rfl⟩
      obtain ⟨y, ys, rfl⟩ := hne
      show wpAny _ _ (boolOp pos op (eval e env :: eval e₂ env :: evalEach r env)) _ _ _
      unfold boolOp
      cases op with
      | And =>
        simp only [boolX, Option.map_eq_some_iff] at hb
        obtain ⟨zr, hz, rfl⟩ := hb
        simp only [ev, Option.bind_eq_some_iff] at hv
        obtain ⟨dx, v1, t, ht, hv⟩ := hv
        refine wpAny_bind (wpAny_mono (hE A E c env e x s O σ dx H.down h1 v1) (fun v s₁ h₁ => ?_) fun _ _ e => e)
        obtain ⟨g1, ⟨f1, r1, o1⟩, _⟩ := h₁
        refine wpAny_bind (wpAny_standAt (wpAny_bind (wpAny_holding (wpAny_mono (s_truthy r1 ht) (fun b' s₂ h₂ => ?_) fun _ _ e => e))))
        obtain ⟨rfl, g2⟩ := h₂
        cases b' with
        | true =>
          rw [if_pos rfl] at hv
          exact wpAny_mono (hB A E c env (e₂ :: r) (y :: ys) .And zr pos s₂ O σ d (H.down.go (g1.trans g2)) h2 hz hv) (fun _ _ p => PostE.lift (g1.trans g2) p) fun _ _ e => e
        | false =>
          rw [if_neg Bool.false_ne_true] at hv
          cases hv
          exact wpAny_pure ⟨g1.trans g2, ⟨f1, r1.kp g2.kp, o1⟩, fun q => nomatch q⟩
      | Or =>
        simp only [boolX, Option.map_eq_some_iff] at hb
        obtain ⟨zr, hz, rfl⟩ := hb
        simp only [ev, Option.bind_eq_some_iff] at hv
        obtain ⟨dx, v1, t, ht, hv⟩ := hv
        refine wpAny_bind (wpAny_mono (hE A E c env e x s O σ dx H.down h1 v1) (fun v s₁ h₁ => ?_) fun _ _ e => e)
        obtain ⟨g1, ⟨f1, r1, o1⟩, _⟩ := h₁
        refine wpAny_bind (wpAny_standAt (wpAny_bind (wpAny_holding (wpAny_mono (s_truthy r1 ht) (fun b' s₂ h₂ => ?_) fun _ _ e => e))))
        obtain ⟨rfl, g2⟩ := h₂
        cases b' with
        | true =>
          rw [if_pos rfl] at hv
          cases hv
          exact wpAny_pure ⟨g1.trans g2, ⟨f1, r1.kp g2.kp, o1⟩, fun q => nomatch q⟩
        | false =>
          rw [if_neg Bool.false_ne_true] at hv
          exact wpAny_mono (hB A E c env (e₂ :: r) (y :: ys) .Or zr pos s₂ O σ d (H.down.go (g1.trans g2)) h2 hz hv) (fun _ _ p => PostE.lift (g1.trans g2) p) fun _ _ e => e

theorem step_Bt (hT : ST prog w h₀ lv fns Φ n) (hB : SBt prog w h₀ lv fns Φ n) : SBt prog w h₀ lv fns Φ (n + 1) := by
  intro A E c env es xs op z s O σ d b H h hb hv hb'
  cases es with
  | nil => simp only [cEs, Option.some.injEq] at h; subst h; cases op <;> simp [boolX] at hb
  | cons e r =>
    simp only [cEs, Option.bind_eq_some_iff, Option.some.injEq] at h
    obtain ⟨x, h1, xs', h2, rfl⟩ := h
    rw [arm_allTrue_cons]
    cases r with
    | nil =>
      have : xs' = [] := by
        cases n with
        | zero => exact no h2
        | succ n => simpa [cEs] using h2.symm
      subst this
      obtain rfl := bool_single hb
      refine wpAny_bind (wpAny_mono (hT A E c env e _ s O σ d b H.down h1 hv hb') (fun b₁ s₁ h₁ => ?_) fun _ _ e => e)
      obtain ⟨rfl, g1⟩ := h₁
      cases op <;> cases b₁ <;> exact wpAny_pure ⟨rfl, g1⟩
    | cons e₂ r =>
      have hne : ∃ y ys, xs' = y :: ys := by
        cases n with
        | zero => exact no h2
        | succ n =>
          simp only [cEs, Option.bind_eq_some_iff, Option.some.injEq] at h2
          obtain ⟨y, _, ys, _, rfl⟩ := h2
          exact ⟨y, ys, rfl⟩
      obtain ⟨y, ys, rfl⟩ := hne
      cases op with
      | And =>
        simp only [boolX, Option.map_eq_some_iff] at hb
        obtain ⟨zr, hz, rfl⟩ := hb
        simp only [ev, Option.bind_eq_some_iff] at hv
        obtain ⟨dx, v1, t, ht, hv⟩ := hv
        refine wpAny_bind (wpAny_mono (hT A E c env e x s O σ dx t H.down h1 v1 ht) (fun b₁ s₁ h₁ => ?_) fun _ _ e => e)
        obtain ⟨rfl, g1⟩ := h₁
        cases b₁ with
        | true =>
          rw [if_pos rfl] at hv
          exact wpAny_mono (hB A E c env (e₂ :: r) (y :: ys) .And zr s₁ O σ d b (H.down.go g1) h2 hz hv hb') (fun _ _ p => ⟨p.1, g1.trans p.2⟩) fun _ _ e => e
        | false =>
          rw [if_neg Bool.false_ne_true] at hv
          cases hv
          rw [hb'] at ht; cases ht
          exact wpAny_pure ⟨rfl, g1⟩
      | Or =>
        simp only [boolX, Option.map_eq_some_iff] at hb
        obtain ⟨zr, hz, rfl⟩ := hb
        simp only [ev, Option.bind_eq_some_iff] at hv
        obtain ⟨dx, v1, t, ht, hv⟩ := hv
        refine wpAny_bind (wpAny_mono (hT A E c env e x s O σ dx t H.down h1 v1 ht) (fun b₁ s₁ h₁ => ?_) fun _ _ e => e)
        obtain ⟨rfl, g1⟩ := h₁
        cases b₁ with
        | true =>
          rw [if_pos rfl] at hv
          cases hv
          rw [hb'] at ht; cases ht
          exact wpAny_pure ⟨rfl, g1⟩
        | false =>
          rw [if_neg Bool.false_ne_true] at hv
          exact wpAny_mono (hB A E c env (e₂ :: r) (y :: ys) .Or zr s₁ O σ d b (H.down.go g1) h2 hz hv hb') (fun _ _ p => ⟨p.1, g1.trans p.2⟩) fun _ _ e => e
end
end Mine
namespace Mine
open PySem PySem.SeqAt PyProof.Rows PySem.Calls

theorem boot_range : bootBuiltins "range" = some (.type "range") := by decide +kernel
theorem boot_len' : bootBuiltins "len" = some (.builtin "len") := by decide +kernel
theorem boot_isi : bootBuiltins "isinstance" = some (.builtin "isinstance") := by decide +kernel
theorem boot_bool : bootBuiltins "bool" = some (.type "bool") := by decide +kernel

section
variable {prog : Program} {w : World} {mg mb : Str → Option Value} {h₀ : Heap} {lv : Nat} {fns : List Str} {Φ : List (List D → Option D)} {n : Nat} {A : Around} {E : Value → Shared → Prop} {c : Cx} {env : Env} {s s' : Shared} {O : List Addr} {σ : List (Option D)}

theorem wp_callName {f : Str} {p pos : Pos} {args : List Expr} {Q : Value → Shared → Prop}
    (h : wpAny (model prog w) A (eval (.Name f p) env) (fun fv s₁ => wpAny (model prog w) A (callWith pos fv [] (backTo pos (starEach args env)) []) Q E s₁) E s) :
    wpAny (model prog w) A (eval (.Call (.Name f p) args [] pos) env) Q E s := by
  show wpAny _ _ (do callWith pos (← eval (.Name f p) env) [] (backTo pos (starEach args env)) (backToKw pos (keywordEach [] env))) _ _ _
  exact wpAny_bind h

theorem builtin_parts {x : Str} (h : c.builtin x = true) : c.glob x = true ∧ c.fns.contains x = false := by
  unfold Cx.builtin at h
  simpa using h

theorem s_range {f : Str} {p pos : Pos} {e₁ : Expr} {x₁ : X} {a b : D} {ds : List D} (T : Tied prog w mg mb h₀ lv fns Φ) (H : Here h₀ lv fns n A c env s O σ) (hE : SE prog w h₀ lv fns Φ n)
    (hf : f = "range") (hb : c.builtin f = true) (c1 : cE n c e₁ = some x₁) (v1 : ev Φ x₁ σ = some b) (ha : a = .int 0) (hr : range? a b = some ds) :
    wpAny (model prog w) A (eval (.Call (.Name f p) [e₁] [] pos) env) (fun xv s₁ => wpAny (model prog w) A (pyIter xv) (fun it s₂ => ∃ s', Go s s' ∧ Iter prog w s' O ds it s₂) E s₁) E s := by
  subst ha
  cases b with
  | int b =>
    simp only [range?, Option.ite_none_right_eq_some, Option.some.injEq] at hr
    obtain ⟨⟨q1, q2, q3⟩, rfl⟩ := hr
    obtain ⟨hg, hn⟩ := builtin_parts hb
    rw [H.fs] at hn
    refine wp_callName (s_builtin T.base H.eo H.kp hg (T.free f (by rw [hf]; decide) hn) (by rw [hf]; decide) (by rw [hf]; exact boot_range) ?_)
    refine PyProof.Rows.callWith_type (by rw [cE_plain c1]; rfl) ?_
    rw [cE_plain c1]
    refine evalArgs_plain (spliced_cons (wpAny_mono (hE A E c env e₁ x₁ s O σ _ H c1 v1) (fun v s₁ h₁ => spliced_nil ?_) fun _ _ e => e))
    obtain ⟨g1, ⟨f1, r1, o1⟩, _⟩ := h₁
    cases r1 with
    | int _ t =>
      refine call_range_1 ?_
      refine wpAny_mono (s_rangeIter (O := O) (s := { s₁ with heap := s₁.heap.push { cls := .type "range", data := .fields #[.int 0 s₁.toks, .int b t, .int 1 (s₁.toks + 1)] }, toks := s₁.toks + 1 + 1 }) (Heap.get?_push_size _ rfl) (by decide) q2 q3) (fun it s₂ h₂ => ⟨_, g1.trans (Go.push s₁ _ _), h₂⟩) fun _ _ e => e
  | _ => simp [range?] at hr
theorem s_range2 {f : Str} {p pos : Pos} {e₁ e₂ : Expr} {x₁ x₂ : X} {a b : D} {ds : List D} (T : Tied prog w mg mb h₀ lv fns Φ) (H : Here h₀ lv fns n A c env s O σ) (hE : SE prog w h₀ lv fns Φ n)
    (hf : f = "range") (hb : c.builtin f = true) (c1 : cE n c e₁ = some x₁) (c2 : cE n c e₂ = some x₂) (v1 : ev Φ x₁ σ = some a) (v2 : ev Φ x₂ σ = some b) (hr : range? a b = some ds) :
    wpAny (model prog w) A (eval (.Call (.Name f p) [e₁, e₂] [] pos) env) (fun xv s₁ => wpAny (model prog w) A (pyIter xv) (fun it s₂ => ∃ s', Go s s' ∧ Iter prog w s' O ds it s₂) E s₁) E s := by
  cases a with
  | int a =>
    cases b with
    | int b =>
      simp only [range?, Option.ite_none_right_eq_some, Option.some.injEq] at hr
      obtain ⟨⟨q1, q2, q3⟩, rfl⟩ := hr
      obtain ⟨hg, hn⟩ := builtin_parts hb
      rw [H.fs] at hn
      refine wp_callName (s_builtin T.base H.eo H.kp hg (T.free f (by rw [hf]; decide) hn) (by rw [hf]; decide) (by rw [hf]; exact boot_range) ?_)
      refine PyProof.Rows.callWith_type (by rw [cE_plain c1, cE_plain c2]; rfl) ?_
      rw [cE_plain c1, cE_plain c2]
      refine evalArgs_plain (spliced_cons (wpAny_mono (hE A E c env e₁ x₁ s O σ _ H c1 v1) (fun va s₁ h₁ => ?_) fun _ _ e => e))
      obtain ⟨g1, ⟨f1, r1, o1⟩, _⟩ := h₁
      refine spliced_cons (wpAny_mono (hE A E c env e₂ x₂ s₁ O σ _ (H.go g1) c2 v2) (fun vb s₂ h₂ => spliced_nil ?_) fun _ _ e => e)
      obtain ⟨g2, ⟨f2, r2, o2⟩, _⟩ := h₂
      cases r1 with
      | int _ t =>
        cases r2 with
        | int _ u =>
          refine call_range_2 ?_
          refine wpAny_mono (s_rangeIter (O := O) (s := { s₂ with heap := s₂.heap.push { cls := .type "range", data := .fields #[.int a t, .int b u, .int 1 s₂.toks] }, toks := s₂.toks + 1 }) (Heap.get?_push_size _ rfl) q1 q2 q3) (fun it s₃ h₃ => ⟨_, (g1.trans g2).trans (Go.push s₂ _ _), h₃⟩) fun _ _ e => e
    | _ => simp [range?] at hr
  | _ => simp [range?] at hr

theorem plain_iter {e : Expr} {x : X} {d : D} {ds : List D} (H : Here h₀ lv fns n A c env s O σ) (hE : SE prog w h₀ lv fns Φ n) (c1 : cE n c e = some x) (v1 : ev Φ x σ = some d) (hi : items d = some ds) :
    wpAny (model prog w) A (eval e env) (fun xv s₁ => wpAny (model prog w) A (pyIter xv) (fun it s₂ => ∃ s', Go s s' ∧ Iter prog w s' O ds it s₂) E s₁) E s := by
  refine wpAny_mono (hE A E c env e x s O σ d H c1 v1) (fun v s₁ h₁ => ?_) fun _ _ e => e
  obtain ⟨g1, ⟨f1, r1, o1⟩, _⟩ := h₁
  exact wpAny_mono (s_iter hi r1 o1) (fun it s₂ h₂ => ⟨s₁, g1, h₂⟩) fun _ _ e => e
end
end Mine
namespace Mine
open PySem PySem.SeqAt PyProof.Rows PySem.Calls
section
variable {prog : Program} {w : World} {mg mb : Str → Option Value} {h₀ : Heap} {lv : Nat} {fns : List Str} {Φ : List (List D → Option D)} {n : Nat} {A : Around} {E : Value → Shared → Prop} {c : Cx} {env : Env} {s s' : Shared} {O : List Addr} {σ : List (Option D)} {x : X} {d : D}

theorem i_range1 {f : Str} {p q : Pos} {e' : Expr} {ds : List D} (T : Tied prog w mg mb h₀ lv fns Φ) (hE : SE prog w h₀ lv fns Φ n) (H : Here h₀ lv fns n A c env s O σ)
    (h : (if f = "range" then (if c.builtin f then (cE n c e').map fun h => X.range (.cint 0) h else none) else cE n c (.Call (.Name f p) [e'] [] q)) = some x) (hv : ev Φ x σ = some d) (hi : items d = some ds) :
    wpAny (model prog w) A (eval (.Call (.Name f p) [e'] [] q) env) (fun xv s₁ => wpAny (model prog w) A (pyIter xv) (fun it s₂ => ∃ s', Go s s' ∧ Iter prog w s' O ds it s₂) E s₁) E s := by
  split at h
  · rename_i hf
    split at h
    · rename_i hb
      obtain ⟨x', c1, rfl⟩ := Option.map_eq_some_iff.mp h
      simp only [ev, Option.bind_eq_some_iff, Option.map_eq_some_iff, Option.some.injEq] at hv
      obtain ⟨a, rfl, b, v1, l, hr, rfl⟩ := hv
      cases hi
      exact s_range T H hE hf hb c1 v1 rfl hr
    · cases h
  · exact plain_iter H hE h hv hi
theorem i_range2 {f : Str} {p q : Pos} {e₁ e₂ : Expr} {ds : List D} (T : Tied prog w mg mb h₀ lv fns Φ) (hE : SE prog w h₀ lv fns Φ n) (H : Here h₀ lv fns n A c env s O σ)
    (h : (if f = "range" then (if c.builtin f then (cE n c e₁).bind fun l => (cE n c e₂).map fun h => X.range l h else none) else cE n c (.Call (.Name f p) [e₁, e₂] [] q)) = some x) (hv : ev Φ x σ = some d) (hi : items d = some ds) :
    wpAny (model prog w) A (eval (.Call (.Name f p) [e₁, e₂] [] q) env) (fun xv s₁ => wpAny (model prog w) A (pyIter xv) (fun it s₂ => ∃ s', Go s s' ∧ Iter prog w s' O ds it s₂) E s₁) E s := by
  split at h
  · rename_i hf
    split at h
    · rename_i hb
      simp only [Option.bind_eq_some_iff, Option.map_eq_some_iff] at h
      obtain ⟨x₁, c1, x₂, c2, rfl⟩ := h
      simp only [ev, Option.bind_eq_some_iff, Option.map_eq_some_iff] at hv
      obtain ⟨a, v1, b, v2, l, hr, rfl⟩ := hv
      cases hi
      exact s_range2 T H hE hf hb c1 c2 v1 v2 hr
    · cases h
  · exact plain_iter H hE h hv hi
theorem step_I (T : Tied prog w mg mb h₀ lv fns Φ) (hE : SE prog w h₀ lv fns Φ n) : SI prog w h₀ lv fns Φ (n + 1) := by
  intro A E c env e x s O σ d ds H h hv hi
  have Hd := H.down
  cases e with
  | Call f args kws q => cases f with
    | Name f p => cases kws with
      | nil => cases args with
        | nil => exact plain_iter Hd hE h hv hi
        | cons a args => cases args with
          | nil => exact i_range1 T hE Hd h hv hi
          | cons b args => cases args with
            | nil => exact i_range2 T hE Hd h hv hi
            | cons _ _ => exact plain_iter Hd hE h hv hi
      | cons _ _ => exact plain_iter Hd hE h hv hi
    | _ => exact plain_iter Hd hE h hv hi
  | _ => exact plain_iter Hd hE h hv hi

theorem call_fn {f : Str} {p pos : Pos} {args : List Expr} {xs : List X} {i : Nat} {ds : List D} {g : List D → Option D} (T : Tied prog w mg mb h₀ lv fns Φ) (H : Here h₀ lv fns n A c env s O σ) (hL : SL prog w h₀ lv fns Φ n)
    (hf : c.fn? f = some i) (c1 : cEs n c args = some xs) (v1 : ev Φ (argsX xs) σ = some (.tuple ds)) (hg : Φ[i]? = some g) (hd : g ds = some d) (hne : args ≠ []) :
    wpAny (model prog w) A (eval (.Call (.Name f p) args [] pos) env) (PostE s O d false) E s := by
  unfold Cx.fn? at hf
  split at hf
  · rename_i hgl
    obtain ⟨_, hfi⟩ := fn_get hf
    rw [Nat.sub_zero, H.fs] at hfi
    obtain ⟨a, o, fd, m1, m2, m3, m4⟩ := T.fn i f g hfi hg
    refine wp_callName (s_glob T.base H.eo H.kp hgl m1 ?_)
    obtain ⟨_, hst, ds', e1, _, w1⟩ := hL A E c env args xs s O σ _ pos H c1 v1
    cases e1
    refine callWith_function (o := o) (fd := fd) ?_
    cases args with
    | nil => exact absurd rfl hne
    | cons e r =>
      obtain ⟨me, xe, he⟩ := hst e (List.mem_cons_self ..)
      have hp := cE_plain (env := env) he r
      rw [hp] at w1 ⊢
      refine evalArgs_plain (wpAny_mono w1 (fun vs s₁ h₁ => ?_) fun _ _ e => e)
      obtain ⟨g1, fp, rs, os⟩ := h₁
      have K1 := KP.trans H.kp g1.kp
      refine ⟨⟨K1 _ _ m2, m3⟩, ?_⟩
      refine wpAny_call (codeAny_mono (m4 A s₁ (H.rm.le (by omega)) K1 O vs ds fp d (H.live.kp g1.kp) rs os hd) fun r s₂ h₂ => ?_)
      obtain ⟨v, rfl, hp⟩ := h₂
      exact PostE.lift g1 hp
  · cases hf

theorem e_int {i : Int} {k : Nat} {p : Pos} (h : some (X.cint i) = some x) (hv : ev Φ x σ = some d) : wpAny (model prog w) A (eval (.Constant (.int i) k p) env) (PostE s O d (fresh x)) E s := by
  cases h; cases hv; exact wpAny_mkInt post_int
theorem e_none {k : Nat} {p : Pos} (h : some X.cnone = some x) (hv : ev Φ x σ = some d) : wpAny (model prog w) A (eval (.Constant .none k p) env) (PostE s O d (fresh x)) E s := by
  cases h; cases hv; exact wpAny_pure (post_none (k := s.toks))
theorem e_bool {b : Bool} {k : Nat} {p : Pos} (h : some (X.cbool b) = some x) (hv : ev Φ x σ = some d) : wpAny (model prog w) A (eval (.Constant (.bool b) k p) env) (PostE s O d (fresh x)) E s := by
  cases h; cases hv; exact wpAny_pure (post_bool (k := s.toks))
theorem e_str {t : Str} {k : Nat} {p : Pos} (h : (if t.length ≤ 1000 then some (X.cstr t) else none) = some x) (hv : ev Φ x σ = some d) : wpAny (model prog w) A (eval (.Constant (.str t) k p) env) (PostE s O d (fresh x)) E s := by
  simp only [Option.ite_none_right_eq_some, Option.some.injEq] at h
  obtain ⟨hl, rfl⟩ := h
  cases hv; exact Constant_str (post_str (by omega))
theorem e_name {y : Str} {p : Pos} (H : Here h₀ lv fns n A c env s O σ) (h : (c.own? y).map X.var = some x) (hv : ev Φ x σ = some d) : wpAny (model prog w) A (eval (.Name y p) env) (PostE s O d (fresh x)) E s := by
  obtain ⟨i, hi, rfl⟩ := Option.map_eq_some_iff.mp h
  exact s_name H.eo H.vis hi hv
theorem fresh_bin {o : BOp} {a b : X} {s : Shared} {O : List Addr} {d : D} {v : Value} {s' : Shared} (p : PostE s O d true v s') : PostE s O d (fresh (.bin o a b)) v s' := p.weak fun _ => rfl
theorem e_bin {l r : Expr} {op : Operator} {p : Pos} (hE : SE prog w h₀ lv fns Φ n) (H : Here h₀ lv fns n A c env s O σ)
    (h : ((bop? op).bind fun o => (cE n c l).bind fun a => (cE n c r).bind fun b => some (X.bin o a b)) = some x) (hv : ev Φ x σ = some d) : wpAny (model prog w) A (eval (.BinOp l op r p) env) (PostE s O d (fresh x)) E s := by
  simp only [Option.bind_eq_some_iff, Option.some.injEq] at h
  obtain ⟨o, ho, a, c1, b, c2, rfl⟩ := h
  simp only [ev, Option.bind_eq_some_iff] at hv
  obtain ⟨dx, v1, dy, v2, hv⟩ := hv
  rw [arm_eval_BinOp]
  refine wpAny_bind (wpAny_mono (hE A E c env l a s O σ dx H c1 v1) (fun va s₁ h₁ => ?_) fun _ _ e => e)
  obtain ⟨g1, ⟨f1, r1, o1⟩, _⟩ := h₁
  refine wpAny_bind (wpAny_holding (wpAny_mono (hE A E c env r b s₁ O σ dy (H.go g1) c2 v2) (fun vb s₂ h₂ => ?_) fun _ _ e => e))
  obtain ⟨g2, ⟨f2, r2, o2⟩, _⟩ := h₂
  refine wpAny_bind (wpAny_standAt (wpAny_operating (wpAny_mono (s_bin ho hv (r1.kp g2.kp) r2 o1 o2 (H.live.kp (g1.trans g2).kp)) (fun _ _ q => fresh_bin (PostE.lift (g1.trans g2) q)) fun _ _ e => e)))
theorem e_neg {e : Expr} {p : Pos} (hE : SE prog w h₀ lv fns Φ n) (H : Here h₀ lv fns n A c env s O σ) (h : (cE n c e).map X.neg = some x) (hv : ev Φ x σ = some d) : wpAny (model prog w) A (eval (.UnaryOp .USub e p) env) (PostE s O d (fresh x)) E s := by
  obtain ⟨a, c1, rfl⟩ := Option.map_eq_some_iff.mp h
  simp only [ev, Option.bind_eq_some_iff] at hv
  obtain ⟨dx, v1, hv⟩ := hv
  rw [arm_eval_UnaryOp]
  refine wpAny_bind (wpAny_mono (hE A E c env e a s O σ dx H c1 v1) (fun va s₁ h₁ => wpAny_bind (wpAny_standAt (wpAny_holding ?_))) fun _ _ e => e)
  obtain ⟨g1, ⟨f1, r1, o1⟩, _⟩ := h₁
  cases r1 with
  | int i t => cases hv; exact P.neg_int (PostE.lift g1 post_int)
  | _ => simp at hv
theorem e_not {e : Expr} {p : Pos} (hE : SE prog w h₀ lv fns Φ n) (H : Here h₀ lv fns n A c env s O σ) (h : (cE n c e).map X.not = some x) (hv : ev Φ x σ = some d) : wpAny (model prog w) A (eval (.UnaryOp .Not e p) env) (PostE s O d (fresh x)) E s := by
  obtain ⟨a, c1, rfl⟩ := Option.map_eq_some_iff.mp h
  simp only [ev, Option.bind_eq_some_iff, Option.map_eq_some_iff] at hv
  obtain ⟨dx, v1, b, hb, rfl⟩ := hv
  rw [arm_eval_UnaryOp]
  refine wpAny_bind (wpAny_mono (hE A E c env e a s O σ dx H c1 v1) (fun va s₁ h₁ => wpAny_bind (wpAny_standAt (wpAny_holding ?_))) fun _ _ e => e)
  obtain ⟨g1, ⟨f1, r1, o1⟩, _⟩ := h₁
  refine not_of (wpAny_mono (s_truthy r1 hb) (fun b' s₂ h₂ => ?_) fun _ _ e => e)
  obtain ⟨rfl, g2⟩ := h₂
  exact PostE.lift (g1.trans g2) post_bool'
theorem e_boolop {es : List Expr} {op : BoolOp} {p : Pos} (hB : SBe prog w h₀ lv fns Φ n) (H : Here h₀ lv fns n A c env s O σ) (h : ((cEs n c es).bind fun xs => (match xs with | _ :: _ :: _ => boolX op xs | _ => none)) = some x) (hv : ev Φ x σ = some d) : wpAny (model prog w) A (eval (.BoolOp op es p) env) (PostE s O d (fresh x)) E s := by
  simp only [Option.bind_eq_some_iff] at h
  obtain ⟨xs, c1, h⟩ := h
  split at h
  · rename_i y z r
    have hf : fresh x = false := by
      cases op <;> (simp only [boolX, Option.map_eq_some_iff] at h; obtain ⟨zr, _, rfl⟩ := h; rfl)
    rw [hf]
    exact hB A E c env es _ op x p s O σ d H c1 h hv
  · cases h
theorem e_ite {t a b : Expr} {p : Pos} (hE : SE prog w h₀ lv fns Φ n) (hT : ST prog w h₀ lv fns Φ n) (H : Here h₀ lv fns n A c env s O σ)
    (h : ((cE n c t).bind fun t => (cE n c a).bind fun a => (cE n c b).bind fun b => some (X.ite t a b)) = some x) (hv : ev Φ x σ = some d) : wpAny (model prog w) A (eval (.IfExp t a b p) env) (PostE s O d (fresh x)) E s := by
  simp only [Option.bind_eq_some_iff, Option.some.injEq] at h
  obtain ⟨xt, c0, xa, c1, xb, c2, rfl⟩ := h
  simp only [ev, Option.bind_eq_some_iff] at hv
  obtain ⟨dt, v0, tb, ht, hv⟩ := hv
  refine wp_ifexp (wpAny_mono (hT A E c env t xt s O σ dt tb H c0 v0 ht) (fun b' s₁ h₁ => ?_) fun _ _ e => e)
  obtain ⟨rfl, g1⟩ := h₁
  cases b' with
  | true =>
    rw [if_pos rfl] at hv ⊢
    exact wpAny_mono (hE A E c env a xa s₁ O σ d (H.go g1) c1 hv) (fun _ _ q => PostE.lift g1 (q.weak fun z => nomatch z)) fun _ _ e => e
  | false =>
    rw [if_neg Bool.false_ne_true] at hv ⊢
    exact wpAny_mono (hE A E c env b xb s₁ O σ d (H.go g1) c2 hv) (fun _ _ q => PostE.lift g1 (q.weak fun z => nomatch z)) fun _ _ e => e
theorem e_cmp {l r : Expr} {op : CmpOp} {p : Pos} (hE : SE prog w h₀ lv fns Φ n) (H : Here h₀ lv fns n A c env s O σ)
    (h : ((cop? op).bind fun o => (cE n c l).bind fun a => (cE n c r).bind fun b => some (X.cmp o a b)) = some x) (hv : ev Φ x σ = some d) : wpAny (model prog w) A (eval (.Compare l [op] [r] p) env) (PostE s O d (fresh x)) E s := by
  simp only [Option.bind_eq_some_iff, Option.some.injEq] at h
  obtain ⟨o, ho, a, c1, b, c2, rfl⟩ := h
  simp only [ev, Option.bind_eq_some_iff, Option.map_eq_some_iff] at hv
  obtain ⟨dx, v1, dy, v2, rb, hv, rfl⟩ := hv
  refine wp_cmp1 (cE_notSet c2) (two_values hE H c1 c2 v1 v2 fun va vb s₂ f1 f2 g r1 o1 r2 o2 => ?_)
  exact s_cmp ho hv r1 r2 H.rm.units (PostE.lift g post_bool')
theorem e_cmp2 {l r₁ r₂ : Expr} {op₁ op₂ : CmpOp} {p : Pos} (hE : SE prog w h₀ lv fns Φ n) (H : Here h₀ lv fns n A c env s O σ)
    (h : ((cop? op₁).bind fun o₁ => (cop? op₂).bind fun o₂ => (cE n c l).bind fun a => (cE n c r₁).bind fun b₁ => (cE n c r₂).bind fun b₂ => some (X.cmp2 o₁ o₂ a b₁ b₂)) = some x) (hv : ev Φ x σ = some d) :
    wpAny (model prog w) A (eval (.Compare l [op₁, op₂] [r₁, r₂] p) env) (PostE s O d (fresh x)) E s := by
  simp only [Option.bind_eq_some_iff, Option.some.injEq] at h
  obtain ⟨o₁, ho₁, o₂, ho₂, a, c1, b₁, c2, b₂, c3, rfl⟩ := h
  simp only [ev, Option.bind_eq_some_iff] at hv
  obtain ⟨dx, v1, dy, v2, t, ht, hv⟩ := hv
  refine wp_cmp2 (cE_notSet c3) (two_values hE H c1 c2 v1 v2 fun va vb s₂ f1 f2 g r1 o1 r2 o2 => ?_)
  refine s_cmp ho₁ ht r1 r2 H.rm.units (wpAny_truthy_bool ?_)
  cases t with
  | true =>
    rw [if_pos rfl] at hv ⊢
    simp only [Option.bind_eq_some_iff, Option.map_eq_some_iff] at hv
    obtain ⟨dz, v3, rb, hv, rfl⟩ := hv
    refine wpAny_mono (hE A E c env r₂ b₂ s₂ O σ dz (H.go g) c3 v3) (fun vc s₃ h₃ => ?_) fun _ _ e => e
    obtain ⟨g3, ⟨f3, r3, o3⟩, _⟩ := h₃
    exact s_cmp ho₂ hv (r2.kp g3.kp) r3 H.rm.units (PostE.lift (g.trans g3) post_bool')
  | false =>
    rw [if_neg Bool.false_ne_true] at hv ⊢
    cases hv
    exact PostE.lift g post_bool'
theorem e_slice {v : Expr} {lo hi : Option Expr} {p p' : Pos} (hE : SE prog w h₀ lv fns Φ n) (hO : SO prog w h₀ lv fns Φ n) (H : Here h₀ lv fns n A c env s O σ)
    (h : ((cE n c v).bind fun a => (cEo n c lo).bind fun l => (cEo n c hi).bind fun h => some (X.slice a l h)) = some x) (hv : ev Φ x σ = some d) : wpAny (model prog w) A (eval (.Subscript v (.Slice lo hi none p') p) env) (PostE s O d (fresh x)) E s := by
  simp only [Option.bind_eq_some_iff, Option.some.injEq] at h
  obtain ⟨xa, c1, xl, c2, xh, c3, rfl⟩ := h
  simp only [ev, Option.bind_eq_some_iff] at hv
  obtain ⟨dx, v1, dl, v2, dh, v3, hv⟩ := hv
  refine Subscript_ (wpAny_mono (hE A E c env v xa s O σ dx H c1 v1) (fun va s₁ h₁ => ?_) fun _ _ e => e)
  obtain ⟨g1, ⟨f1, r1, o1⟩, _⟩ := h₁
  refine wp_sliceObj (wpAny_mono (hO A E c env lo xl s₁ O σ dl (H.go g1) c2 v2) (fun vl s₂ h₂ => ?_) fun _ _ e => e)
  obtain ⟨g2, ⟨f2, r2, o2⟩, _⟩ := h₂
  refine wpAny_mono (hO A E c env hi xh s₂ O σ dh ((H.go g1).go g2) c3 v3) (fun vh s₃ h₃ => ?_) fun _ _ e => e
  obtain ⟨g3, ⟨f3, r3, o3⟩, _⟩ := h₃
  exact wpAny_mono (s_slice hv (r1.kp (g2.trans g3).kp) (r2.kp g3.kp) r3 o1 (H.live.kp (g1.trans (g2.trans g3)).kp)) (fun _ _ q => PostE.lift (g1.trans (g2.trans g3)) q) fun _ _ e => e
theorem e_rev {v st : Expr} {p p' : Pos} (hE : SE prog w h₀ lv fns Φ n) (H : Here h₀ lv fns n A c env s O σ)
    (h : (if isMinus1 st then (cE n c v).map X.rev else none) = some x) (hv : ev Φ x σ = some d) : wpAny (model prog w) A (eval (.Subscript v (.Slice none none (some st) p') p) env) (PostE s O d (fresh x)) E s := by
  split at h
  · rename_i hst
    obtain ⟨xa, c1, rfl⟩ := Option.map_eq_some_iff.mp h
    simp only [ev, Option.bind_eq_some_iff] at hv
    obtain ⟨dx, v1, hv⟩ := hv
    refine Subscript_ (wpAny_mono (hE A E c env v xa s O σ dx H c1 v1) (fun va s₁ h₁ => ?_) fun _ _ e => e)
    obtain ⟨g1, ⟨f1, r1, o1⟩, _⟩ := h₁
    refine wp_sliceRev hst fun t k => ?_
    exact wpAny_mono (s_rev (s := { s₁ with toks := k }) hv r1 o1 (H.live.kp g1.kp)) (fun _ _ q => PostE.lift (g1.trans (Go.tok s₁ k)) (q.weak fun z => nomatch z)) fun _ _ e => e
  · cases h
theorem e_idx {v i : Expr} {p : Pos} (hE : SE prog w h₀ lv fns Φ n) (H : Here h₀ lv fns n A c env s O σ)
    (h : ((cE n c v).bind fun a => (cE n c i).bind fun b => some (X.idx a b)) = some x) (hv : ev Φ x σ = some d) : wpAny (model prog w) A (eval (.Subscript v i p) env) (PostE s O d (fresh x)) E s := by
  simp only [Option.bind_eq_some_iff, Option.some.injEq] at h
  obtain ⟨xa, c1, xb, c2, rfl⟩ := h
  simp only [ev, Option.bind_eq_some_iff] at hv
  obtain ⟨dx, v1, dy, v2, hv⟩ := hv
  refine Subscript_ (two_values hE H c1 c2 v1 v2 fun va vb s₂ f1 f2 g r1 o1 r2 o2 => ?_)
  exact wpAny_mono (s_index (cE_notSlice c2) hv r1 r2 o1) (fun _ _ q => PostE.lift g q) fun _ _ e => e
theorem e_list {es : List Expr} {p : Pos} (hL : SL prog w h₀ lv fns Φ n) (H : Here h₀ lv fns n A c env s O σ)
    (h : (cEs n c es).map (fun xs => X.list (argsX xs)) = some x) (hv : ev Φ x σ = some d) : wpAny (model prog w) A (eval (.List es p) env) (PostE s O d (fresh x)) E s := by
  obtain ⟨xs, c1, rfl⟩ := Option.map_eq_some_iff.mp h
  simp only [ev, Option.bind_eq_some_iff, Option.map_eq_some_iff] at hv
  obtain ⟨ds, ⟨dt, v1, hds⟩, rfl⟩ := hv
  obtain ⟨le, _, ds', rfl, ld, w1⟩ := hL A E c env es xs s O σ dt p H c1 v1
  cases hds
  refine List_ (wpAny_mono w1 (fun vs s₁ h₁ => ?_) fun _ _ e => e)
  obtain ⟨g1, fp, rs, os⟩ := h₁
  have hn : vs.length ≤ 1000 := by have := rs.length; have := H.rm.d; omega
  refine wpAny_newObj_type ?_ (by show vs.toArray.size ≤ sizeLine; rw [sizeL, List.size_toArray]; omega)
  exact PostE.lift g1 (post_list (vs := vs.toArray) (k := s₁.toks) (by simpa using rs) os (H.live.kp g1.kp) (by rw [List.size_toArray]; omega))
theorem e_tup {es : List Expr} {k : Nat} {p : Pos} (hL : SL prog w h₀ lv fns Φ n) (H : Here h₀ lv fns n A c env s O σ)
    (h : (cEs n c es).map (fun xs => X.tup (argsX xs)) = some x) (hv : ev Φ x σ = some d) : wpAny (model prog w) A (eval (.Tuple es k p) env) (PostE s O d (fresh x)) E s := by
  obtain ⟨xs, c1, rfl⟩ := Option.map_eq_some_iff.mp h
  simp only [ev, Option.bind_eq_some_iff, Option.map_eq_some_iff] at hv
  obtain ⟨ds, ⟨dt, v1, hds⟩, rfl⟩ := hv
  obtain ⟨le, _, ds', rfl, ld, w1⟩ := hL A E c env es xs s O σ dt p H c1 v1
  cases hds
  refine Tuple_ (wpAny_mono w1 (fun vs s₁ h₁ => ?_) fun _ _ e => e)
  obtain ⟨g1, fp, rs, os⟩ := h₁
  have hn : vs.length ≤ 1000 := by have := rs.length; have := H.rm.d; omega
  refine wpAny_newObj_type ?_ (by show vs.toArray.size ≤ sizeLine; rw [sizeL, List.size_toArray]; omega)
  exact PostE.lift g1 (post_tuple (vs := vs.toArray) (k := s₁.toks) (by simpa using rs) os (H.live.kp g1.kp) (by rw [List.size_toArray]; omega))
end
end Mine
namespace Mine
open PySem PySem.SeqAt PyProof.Rows PySem.Calls
section
variable {prog : Program} {w : World} {mg mb : Str → Option Value} {h₀ : Heap} {lv : Nat} {fns : List Str} {Φ : List (List D → Option D)} {n : Nat} {A : Around} {E : Value → Shared → Prop} {c : Cx} {env : Env} {s s' : Shared} {O : List Addr} {σ : List (Option D)} {x : X} {d : D}

theorem meth_mono {name : Str} {ov : Value} {pos : Pos} {args : List (Bool × Sem Value)} {Q Q' : Value → Shared → Prop} (h : MethodOnS prog w A E name ov pos args Q s) (hq : ∀ v s', Q v s' → Q' v s') : MethodOnS prog w A E name ov pos args Q' s := by
  obtain ⟨T, id, h1, h2, h3, h4, h5, h6⟩ := h
  exact ⟨T, id, h1, h2, h3, h4, h5, wpAny_mono h6 hq fun _ _ e => e⟩

theorem e_meth {o : Expr} {name : Str} {apos pos : Pos} {args : List Expr} (hE : SE prog w h₀ lv fns Φ n) (H : Here h₀ lv fns n A c env s O σ)
    (h : (if apos.endLine == pos.line then
      match args with
      | [] => (meth0? name).bind fun m => (cE n c o).map (X.meth0 m)
      | [e] => (meth1? name).bind fun m => (cE n c o).bind fun a => (cE n c e).map (X.meth1 m a)
      | _ => none
    else none) = some x) (hv : ev Φ x σ = some d) : wpAny (model prog w) A (eval (.Call (.Attribute o name apos) args [] pos) env) (PostE s O d (fresh x)) E s := by
  split at h
  · rename_i hl
    split at h
    · simp only [Option.bind_eq_some_iff, Option.map_eq_some_iff] at h
      obtain ⟨m, hm, a, c1, rfl⟩ := h
      simp only [ev, Option.bind_eq_some_iff] at hv
      obtain ⟨dx, v1, hv⟩ := hv
      refine Call_method0 (cE_base c1 name) hl (wpAny_mono (hE A E c env o a s O σ dx H c1 v1) (fun ov s₁ h₁ => ?_) fun _ _ e => e)
      obtain ⟨g1, ⟨f1, r1, o1⟩, _⟩ := h₁
      exact meth_mono (s_meth0 hm hv r1) fun _ _ q => PostE.lift g1 q
    · rename_i e
      simp only [Option.bind_eq_some_iff, Option.map_eq_some_iff] at h
      obtain ⟨m, hm, a, c1, b, c2, rfl⟩ := h
      simp only [ev, Option.bind_eq_some_iff] at hv
      obtain ⟨dx, v1, dy, v2, hv⟩ := hv
      refine Call_method1 (cE_base c1 name) (cE_plain c2 []) hl (wpAny_mono (hE A E c env o a s O σ dx H c1 v1) (fun ov s₁ h₁ => ?_) fun _ _ e => e)
      obtain ⟨g1, ⟨f1, r1, o1⟩, _⟩ := h₁
      refine meth_mono (s_meth1 (O := O) hm r1 (H.live.kp g1.kp) (wpAny_mono (hE A E c env e b s₁ O σ dy (H.go g1) c2 v2) (fun v s₂ h₂ => ?_) fun _ _ e => e) ⟨dy, hv⟩) fun _ _ q => PostE.lift g1 (q.weak fun z => by cases m <;> first | rfl | exact nomatch z)
      obtain ⟨g2, ⟨f2, r2, o2⟩, _⟩ := h₂
      exact ⟨g2, dy, f2, r2, hv⟩
    · cases h
  · cases h

theorem s_isi {v : Value} {x d : D} {f1 : List Addr} (h : isB x = some d) (r : Rd s.heap v x f1) : wpAny (model prog w) A (call (.builtin "isinstance") [v, .type "bool"]) (PostE s O d false) E s := by
  cases r with
  | bool b => cases h; exact PySem.IsiPair.bool_bool post_bool'
  | _ => exact no h

theorem e_call {f : Str} {p pos : Pos} {args : List Expr} (T : Tied prog w mg mb h₀ lv fns Φ) (hE : SE prog w h₀ lv fns Φ n) (hL : SL prog w h₀ lv fns Φ n) (H : Here h₀ lv fns n A c env s O σ)
    (h : (if f = "len" then (if c.builtin f then (match args with | [e] => (cE n c e).map X.len | _ => none) else none)
    else if f = "isinstance" then (if c.builtin f then (match args with | [e, .Name b _] => if b = "bool" && c.builtin b then (cE n c e).map X.isBool else none | _ => none) else none)
    else match args with
      | [] => none
      | _ :: _ => (c.fn? f).bind fun i => (cEs n c args).map fun xs => X.call i (argsX xs)) = some x) (hv : ev Φ x σ = some d) : wpAny (model prog w) A (eval (.Call (.Name f p) args [] pos) env) (PostE s O d (fresh x)) E s := by
  split at h
  · rename_i hf
    subst hf
    split at h
    · rename_i hb
      obtain ⟨hg, hc⟩ := builtin_parts hb
      split at h
      · rename_i e
        obtain ⟨a, c1, rfl⟩ := Option.map_eq_some_iff.mp h
        simp only [ev, Option.bind_eq_some_iff] at hv
        obtain ⟨dx, v1, hv⟩ := hv
        refine wp_callName (s_builtin T.base H.eo H.kp hg (T.free _ (by decide) (H.fs ▸ hc)) (by decide) boot_len' ?_)
        rw [show backTo pos (starEach [e] env) = backTo pos [(false, eval e env)] from by rw [cE_plain c1 []]; rfl]
        refine callWith_builtin1 (wpAny_mono (hE A E c env e a s O σ dx H c1 v1) (fun va s₁ h₁ => ?_) fun _ _ e => e)
        obtain ⟨g1, ⟨f1, r1, o1⟩, _⟩ := h₁
        exact wpAny_mono (s_len hv r1) (fun _ _ q => PostE.lift g1 q) fun _ _ e => e
      · cases h
    · cases h
  · split at h
    · rename_i hf
      subst hf
      split at h
      · rename_i hb
        obtain ⟨hg, hc⟩ := builtin_parts hb
        split at h
        · rename_i e b pb
          split at h
          · rename_i hbb
            simp only [Bool.and_eq_true, decide_eq_true_eq] at hbb
            obtain ⟨rfl, hb2⟩ := hbb
            obtain ⟨hg2, hc2⟩ := builtin_parts hb2
            obtain ⟨a, c1, rfl⟩ := Option.map_eq_some_iff.mp h
            simp only [ev, Option.bind_eq_some_iff] at hv
            obtain ⟨dx, v1, hv⟩ := hv
            refine wp_callName (s_builtin T.base H.eo H.kp hg (T.free _ (by decide) (H.fs ▸ hc)) (by decide) boot_isi ?_)
            refine callWith_builtin (by rw [cE_plain c1]; rfl) ?_
            rw [cE_plain c1]
            refine evalArgs_plain (spliced_cons (wpAny_mono (hE A E c env e a s O σ dx H c1 v1) (fun va s₁ h₁ => ?_) fun _ _ e => e))
            obtain ⟨g1, ⟨f1, r1, o1⟩, _⟩ := h₁
            refine spliced_cons (s_builtin T.base H.eo (H.go g1).kp hg2 (T.free _ (by decide) (H.fs ▸ hc2)) (by decide) boot_bool (spliced_nil ?_))
            exact wpAny_mono (s_isi hv r1) (fun _ _ q => PostE.lift g1 q) fun _ _ e => e
          · cases h
        · cases h
      · cases h
    · split at h
      · cases h
      · rename_i e r
        simp only [Option.bind_eq_some_iff, Option.map_eq_some_iff] at h
        obtain ⟨i, hi, xs, c1, rfl⟩ := h
        simp only [ev, Option.bind_eq_some_iff] at hv
        obtain ⟨ds, ⟨dt, v1, hds⟩, g, hg, hv⟩ := hv
        cases dt with
        | tuple l => cases hds; exact call_fn T H hL hi c1 v1 hg hv (by simp)
        | _ => cases hds

theorem e_comp {elt it : Expr} {y : Str} {py pos : Pos} {ifs : List Expr} {inner : Scope} (hI : SI prog w h₀ lv fns Φ n) (hE : SE prog w h₀ lv fns Φ n) (hT : ST prog w h₀ lv fns Φ n) (H : Here h₀ lv fns n A c env s O σ)
    (h : (if compOk inner c.sc [y] && notSet it && inner.names.lookup y == some .local then
      (cI n c it).bind fun i => (cE n ⟨relab inner c.sc, (y, c.k) :: c.Γ, c.k + 1, c.fns⟩ elt).bind fun e =>
        match ifs with
        | [] => some (X.comp e i (.cbool true))
        | [t] => (cE n ⟨relab inner c.sc, (y, c.k) :: c.Γ, c.k + 1, c.fns⟩ t).map fun t => X.comp e i t
        | _ => none
    else none) = some x) (hv : ev Φ x σ = some d) : wpAny (model prog w) A (eval (.ListComp elt [⟨.Name y py, it, ifs, 0⟩] inner pos) env) (PostE s O d (fresh x)) E s := by
  split at h
  · rename_i hok
    simp only [Bool.and_eq_true, beq_iff_eq] at hok
    obtain ⟨⟨h1, h2⟩, h3⟩ := hok
    simp only [Option.bind_eq_some_iff] at h
    obtain ⟨xi, c1, xe, c2, h⟩ := h
    have hin : ∀ (C : Addr) (O' : List Addr) (s' : Shared) (d : D), KP h₀ s'.heap → Live O' s'.heap → Vis (inCx c inner y) s'.heap (compEnvC inner (closL env.cells inner.names []) C env) O' (σ ++ [some d]) →
        Here h₀ lv fns n A (inCx c inner y) (compEnvC inner (closL env.cells inner.names []) C env) s' O' (σ ++ [some d]) := fun C O' s' d k l v =>
      ⟨H.rm, compEnv_ok H.eo h1 C, H.fs, by show c.k + 1 = _; rw [H.k, List.length_append]; rfl, k, v, l⟩
    have key : ∀ (cond : X), x = .comp xe xi cond → (∀ (C : Addr) (O' : List Addr) (E' : Value → Shared → Prop) (s' : Shared) (d cv : D) (b : Bool), KP h₀ s'.heap → Live O' s'.heap → Vis (inCx c inner y) s'.heap (compEnvC inner (closL env.cells inner.names []) C env) O' (σ ++ [some d]) → ev Φ cond (σ ++ [some d]) = some cv → truth cv = some b →
      wpAny (model prog w) A (forIn ifs true fun c r => if r = true then do let ok ← isTrue c (compEnvC inner (closL env.cells inner.names []) C env) (eval c (compEnvC inner (closL env.cells inner.names []) C env)); pure (ForInStep.yield ok) else pure (ForInStep.yield r)) (fun b' s'' => b' = b ∧ Go s' s'') E' s') →
      wpAny (model prog w) A (eval (.ListComp elt [⟨.Name y py, it, ifs, 0⟩] inner pos) env) (PostE s O d (fresh x)) E s := by
      intro cond hx hC
      subst hx
      simp only [ev, Option.bind_eq_some_iff, Option.map_eq_some_iff] at hv
      obtain ⟨ds, ⟨di, v1, hds⟩, out, hev, rfl⟩ := hv
      exact s_compE H.eo h1 h2 H.k h3 H.rm.h H.kp H.vis H.live hev (hI A E c env it xi s O σ di ds H c1 v1 hds) hC
        fun C O' E' s' d dv k l v hd => wpAny_mono (hE A E' _ _ elt xe s' O' _ dv (hin C O' s' d k l v) c2 hd) (fun _ _ q => q.weak fun z => nomatch z) fun _ _ e => e
    split at h
    · cases h
      refine key _ rfl fun C O' E' s' d cv b k l v h4 h5 => ?_
      cases h4; cases h5
      exact wpAny_pure ⟨rfl, Go.refl _⟩
    · obtain ⟨xt, c3, rfl⟩ := Option.map_eq_some_iff.mp h
      refine key _ rfl fun C O' E' s' d cv b k l v h4 h5 => ?_
      exact wpAny_tests_one (hT A E' _ _ _ xt s' O' _ cv b (hin C O' s' d k l v) c3 h4 h5)
    · cases h
  · cases h

theorem step_E (T : Tied prog w mg mb h₀ lv fns Φ) (hE : SE prog w h₀ lv fns Φ n) (hT : ST prog w h₀ lv fns Φ n) (hO : SO prog w h₀ lv fns Φ n) (hL : SL prog w h₀ lv fns Φ n) (hI : SI prog w h₀ lv fns Φ n) (hB : SBe prog w h₀ lv fns Φ n) :
    SE prog w h₀ lv fns Φ (n + 1) := by
  intro A E c env e x s O σ d H h hv
  have Hd := H.down
  cases e with
  | Constant k _ _ => cases k with
    | none => exact e_none h hv
    | bool _ => exact e_bool h hv
    | int _ => exact e_int h hv
    | str _ => exact e_str h hv
    | _ => exact no h
  | Name _ _ => exact e_name Hd h hv
  | BinOp _ _ _ _ => exact e_bin hE Hd h hv
  | UnaryOp op _ _ => cases op with
    | USub => exact e_neg hE Hd h hv
    | Not => exact e_not hE Hd h hv
    | _ => exact no h
  | BoolOp _ _ _ => exact e_boolop hB Hd h hv
  | IfExp _ _ _ _ => exact e_ite hE hT Hd h hv
  | Compare l ops rs _ => cases ops with
    | nil => exact no h
    | cons op ops => cases rs with
      | nil => exact no h
      | cons r rs => cases ops with
        | nil => cases rs with
          | nil =>
            rcases iteB h with ⟨h1, h⟩ | ⟨_, h⟩
            · exact no h
            · exact e_cmp hE Hd h hv
          | cons _ _ => exact no h
        | cons op₂ ops => cases rs with
          | nil => exact no h
          | cons r₂ rs => cases ops with
            | nil => cases rs with
              | nil => exact e_cmp2 hE Hd h hv
              | cons _ _ => exact no h
            | cons _ _ => exact no h
  | Subscript v i _ => cases i with
    | Slice lo hi st _ => cases st with
      | none => exact e_slice hE hO Hd h hv
      | some st => cases lo with
        | none => cases hi with
          | none => exact e_rev hE Hd h hv
          | some _ => exact no h
        | some _ => exact no h
    | _ => exact e_idx hE Hd h hv
  | List _ _ => exact e_list hL Hd h hv
  | Tuple _ _ _ => exact e_tup hL Hd h hv
  | Call f args kws _ => cases kws with
    | nil => cases f with
      | Attribute _ _ _ => exact e_meth hE Hd h hv
      | Name _ _ => exact e_call T hE hL Hd h hv
      | _ => exact no h
    | cons _ _ => exact no h
  | ListComp elt gens inner _ => cases gens with
    | nil => exact no h
    | cons g gens => cases gens with
      | nil => cases g with
        | mk tg it ifs as => cases tg with
          | Name _ _ =>
            obtain ⟨rfl, h⟩ := itb h
            exact e_comp hI hE hT Hd h hv
          | _ => exact no h
      | cons g₂ gens => cases gens with
        | nil => cases g with
          | mk tg it ifs as => cases g₂ with
            | mk tg₂ it₂ ifs₂ as₂ => exact no h
        | cons _ _ => exact no h
  | _ => exact no h
end
end Mine
namespace Mine
open PySem PySem.SeqAt PyProof.Rows PySem.Calls
section
variable {prog : Program} {w : World} {mg mb : Str → Option Value} {h₀ : Heap} {lv : Nat} {fns : List Str} {Φ : List (List D → Option D)} {n : Nat} {A : Around} {E : Value → Shared → Prop} {c : Cx} {env : Env} {s s' : Shared} {O : List Addr} {σ : List (Option D)} {x : X} {d : D}

theorem t_plain {e : Expr} {b : Bool} {p : Pos} (he : isTrue e env (eval e env) = (do let v ← eval e env; standAt p; holding [v] (truthy v)))
    (h : wpAny (model prog w) A (eval e env) (PostE s O d (fresh x)) E s) (hb : truth d = some b) : wpAny (model prog w) A (isTrue e env (eval e env)) (fun b' s' => b' = b ∧ Go s s') E s := by
  rw [he]
  refine wpAny_bind (wpAny_mono h (fun v s₁ h₁ => wpAny_bind (wpAny_standAt (wpAny_holding ?_))) fun _ _ e => e)
  obtain ⟨g1, ⟨f1, r1, o1⟩, _⟩ := h₁
  exact wpAny_mono (s_truthy r1 hb) (fun b' s₂ h₂ => ⟨h₂.1, g1.trans h₂.2⟩) fun _ _ e => e

theorem t_not {e : Expr} {p : Pos} {b : Bool} (hT : ST prog w h₀ lv fns Φ n) (H : Here h₀ lv fns n A c env s O σ) (h : (cE n c e).map X.not = some x) (hv : ev Φ x σ = some d) (hb : truth d = some b) :
    wpAny (model prog w) A (isTrue (.UnaryOp .Not e p) env (eval (.UnaryOp .Not e p) env)) (fun b' s' => b' = b ∧ Go s s') E s := by
  obtain ⟨a, c1, rfl⟩ := Option.map_eq_some_iff.mp h
  simp only [ev, Option.bind_eq_some_iff, Option.map_eq_some_iff] at hv
  obtain ⟨dx, v1, b₁, hb₁, rfl⟩ := hv
  cases hb
  rw [arm_isTrue_UnaryOp]
  refine wpAny_bind (wpAny_mono (hT A E c env e a s O σ dx b₁ H c1 v1 hb₁) (fun b' s₁ h₁ => wpAny_pure ?_) fun _ _ e => e)
  exact ⟨by rw [h₁.1], h₁.2⟩
theorem t_boolop {es : List Expr} {op : BoolOp} {p : Pos} {b : Bool} (hB : SBt prog w h₀ lv fns Φ n) (H : Here h₀ lv fns n A c env s O σ) (h : ((cEs n c es).bind fun xs => (match xs with | _ :: _ :: _ => boolX op xs | _ => none)) = some x) (hv : ev Φ x σ = some d) (hb : truth d = some b) :
    wpAny (model prog w) A (isTrue (.BoolOp op es p) env (eval (.BoolOp op es p) env)) (fun b' s' => b' = b ∧ Go s s') E s := by
  simp only [Option.bind_eq_some_iff] at h
  obtain ⟨xs, c1, h⟩ := h
  split at h
  · exact hB A E c env es _ op x s O σ d b H c1 h hv hb
  · cases h
theorem t_ite {t a b : Expr} {p : Pos} {tv : Bool} (hT : ST prog w h₀ lv fns Φ n) (H : Here h₀ lv fns n A c env s O σ)
    (h : ((cE n c t).bind fun t => (cE n c a).bind fun a => (cE n c b).bind fun b => some (X.ite t a b)) = some x) (hv : ev Φ x σ = some d) (hb : truth d = some tv) :
    wpAny (model prog w) A (isTrue (.IfExp t a b p) env (eval (.IfExp t a b p) env)) (fun b' s' => b' = tv ∧ Go s s') E s := by
  simp only [Option.bind_eq_some_iff, Option.some.injEq] at h
  obtain ⟨xt, c0, xa, c1, xb, c2, rfl⟩ := h
  simp only [ev, Option.bind_eq_some_iff] at hv
  obtain ⟨dt, v0, tb, ht, hv⟩ := hv
  refine wp_isTrue_ifexp (wpAny_mono (hT A E c env t xt s O σ dt tb H c0 v0 ht) (fun b' s₁ h₁ => ?_) fun _ _ e => e)
  obtain ⟨rfl, g1⟩ := h₁
  cases b' with
  | true =>
    rw [if_pos rfl] at hv ⊢
    exact wpAny_mono (hT A E c env a xa s₁ O σ d tv (H.go g1) c1 hv hb) (fun _ _ q => ⟨q.1, g1.trans q.2⟩) fun _ _ e => e
  | false =>
    rw [if_neg Bool.false_ne_true] at hv ⊢
    exact wpAny_mono (hT A E c env b xb s₁ O σ d tv (H.go g1) c2 hv hb) (fun _ _ q => ⟨q.1, g1.trans q.2⟩) fun _ _ e => e
theorem t_cmp {l r : Expr} {op : CmpOp} {p : Pos} {tv : Bool} (hE : SE prog w h₀ lv fns Φ n) (H : Here h₀ lv fns n A c env s O σ)
    (h : ((cop? op).bind fun o => (cE n c l).bind fun a => (cE n c r).bind fun b => some (X.cmp o a b)) = some x) (hv : ev Φ x σ = some d) (hb : truth d = some tv) :
    wpAny (model prog w) A (isTrue (.Compare l [op] [r] p) env (eval (.Compare l [op] [r] p) env)) (fun b' s' => b' = tv ∧ Go s s') E s := by
  simp only [Option.bind_eq_some_iff, Option.some.injEq] at h
  obtain ⟨o, ho, a, c1, b, c2, rfl⟩ := h
  simp only [ev, Option.bind_eq_some_iff, Option.map_eq_some_iff] at hv
  obtain ⟨dx, v1, dy, v2, rb, hv, rfl⟩ := hv
  cases hb
  refine wp_test1 (cE_notSet c2) (two_values hE H c1 c2 v1 v2 fun va vb s₂ f1 f2 g r1 o1 r2 o2 => ?_)
  exact s_cmp ho hv r1 r2 H.rm.units (wpAny_truthy_bool ⟨rfl, g⟩)
theorem t_cmp2 {l r₁ r₂ : Expr} {op₁ op₂ : CmpOp} {p : Pos} {tv : Bool} (hE : SE prog w h₀ lv fns Φ n) (H : Here h₀ lv fns n A c env s O σ)
    (h : ((cop? op₁).bind fun o₁ => (cop? op₂).bind fun o₂ => (cE n c l).bind fun a => (cE n c r₁).bind fun b₁ => (cE n c r₂).bind fun b₂ => some (X.cmp2 o₁ o₂ a b₁ b₂)) = some x) (hv : ev Φ x σ = some d) (hb : truth d = some tv) :
    wpAny (model prog w) A (isTrue (.Compare l [op₁, op₂] [r₁, r₂] p) env (eval (.Compare l [op₁, op₂] [r₁, r₂] p) env)) (fun b' s' => b' = tv ∧ Go s s') E s := by
  simp only [Option.bind_eq_some_iff, Option.some.injEq] at h
  obtain ⟨o₁, ho₁, o₂, ho₂, a, c1, b₁, c2, b₂, c3, rfl⟩ := h
  simp only [ev, Option.bind_eq_some_iff] at hv
  obtain ⟨dx, v1, dy, v2, t, ht, hv⟩ := hv
  refine wp_test2 (cE_notSet c3) (two_values hE H c1 c2 v1 v2 fun va vb s₂ f1 f2 g r1 o1 r2 o2 => ?_)
  refine s_cmp ho₁ ht r1 r2 H.rm.units (wpAny_truthy_bool ?_)
  cases t with
  | true =>
    rw [if_pos rfl] at hv ⊢
    simp only [Option.bind_eq_some_iff, Option.map_eq_some_iff] at hv
    obtain ⟨dz, v3, rb, hv, rfl⟩ := hv
    cases hb
    refine wpAny_mono (hE A E c env r₂ b₂ s₂ O σ dz (H.go g) c3 v3) (fun vc s₃ h₃ => ?_) fun _ _ e => e
    obtain ⟨g3, ⟨f3, r3, o3⟩, _⟩ := h₃
    exact s_cmp ho₂ hv (r2.kp g3.kp) r3 H.rm.units (wpAny_truthy_bool ⟨rfl, g.trans g3⟩)
  | false =>
    rw [if_neg Bool.false_ne_true] at hv ⊢
    cases hv
    cases hb
    exact ⟨rfl, g⟩

theorem step_T (hE1 : SE prog w h₀ lv fns Φ (n + 1)) (hE : SE prog w h₀ lv fns Φ n) (hT : ST prog w h₀ lv fns Φ n) (hB : SBt prog w h₀ lv fns Φ n) :
    ST prog w h₀ lv fns Φ (n + 1) := by
  intro A E c env e x s O σ d b H h hv hb
  have Hd := H.down
  have hw := hE1 A E c env e x s O σ d H h hv
  cases e with
  | UnaryOp op _ _ => cases op with
    | USub => exact t_plain rfl hw hb
    | Not => exact t_not hT Hd h hv hb
    | _ => exact no h
  | BoolOp _ _ _ => exact t_boolop hB Hd h hv hb
  | IfExp _ _ _ _ => exact t_ite hT Hd h hv hb
  | Compare l ops rs _ => cases ops with
    | nil => exact no h
    | cons op ops => cases rs with
      | nil => exact no h
      | cons r rs => cases ops with
        | nil => cases rs with
          | nil =>
            rcases iteB h with ⟨h1, h⟩ | ⟨_, h⟩
            · exact no h
            · exact t_cmp hE Hd h hv hb
          | cons _ _ => exact no h
        | cons op₂ ops => cases rs with
          | nil => exact no h
          | cons r₂ rs => cases ops with
            | nil => cases rs with
              | nil => exact t_cmp2 hE Hd h hv hb
              | cons _ _ => exact no h
            | cons _ _ => exact no h
  | _ => first | exact t_plain rfl hw hb | exact no h

/-- all of it -/
theorem all_E (T : Tied prog w mg mb h₀ lv fns Φ) : ∀ n, SE prog w h₀ lv fns Φ n ∧ ST prog w h₀ lv fns Φ n ∧ SO prog w h₀ lv fns Φ n ∧ SL prog w h₀ lv fns Φ n ∧ SI prog w h₀ lv fns Φ n ∧ SBe prog w h₀ lv fns Φ n ∧ SBt prog w h₀ lv fns Φ n
  | 0 => by
    refine ⟨?_, ?_, ?_, ?_, ?_, ?_, ?_⟩
    · intro A E c env e x s O σ d H h; exact no h
    · intro A E c env e x s O σ d b H h; exact no h
    · intro A E c env e x s O σ d H h; exact no h
    · intro A E c env e x s O σ d pos H h; exact no h
    · intro A E c env e x s O σ d ds H h; exact no h
    · intro A E c env es xs op x pos s O σ d H h; exact no h
    · intro A E c env es xs op x s O σ d b H h; exact no h
  | n + 1 => by
    obtain ⟨hE, hT, hO, hL, hI, hBe, hBt⟩ := all_E T n
    have hE1 := step_E T hE hT hO hL hI hBe
    exact ⟨hE1, step_T hE1 hE hT hBt, step_O hE, step_L hE hL, step_I T hE, step_Be hE hBe, step_Bt hT hBt⟩
end
end Mine
namespace Mine
open PySem PySem.SeqAt PyProof.Rows PySem.Calls

/-- the addresses of the lists that a statement may change -/
noncomputable def owns (σ : List Slot) (P : Nat → Addr) : List Addr := (List.range σ.length).filterMap fun i => match (σ[i]? : Option Slot) with | some (Slot.own _) => some (P i) | _ => none
theorem mem_owns {σ : List Slot} {P : Nat → Addr} {b : Addr} : b ∈ owns σ P ↔ ∃ i l, σ[i]? = some (.own l) ∧ P i = b := by
  unfold owns
  simp only [List.mem_filterMap, List.mem_range]
  constructor
  · rintro ⟨i, hi, h⟩
    split at h
    · rename_i hl; cases h; exact ⟨i, _, hl, rfl⟩
    · cases h
  · rintro ⟨i, l, hl, rfl⟩
    refine ⟨i, ?_, by rw [hl]⟩
    obtain ⟨h, _⟩ := List.getElem?_eq_some_iff.mp hl
    exact h

noncomputable def look (env : Env) (m cm : Str → Option Value) (x : Str) : Option Value := if env.kindOf x = some .local then m x else cm x
noncomputable def SlotV (h : Heap) (O : List Addr) (v : Option Value) (a : Addr) : Slot → Prop
  | .unset => True
  | .frz d => ∃ w fp, v = some w ∧ Rd h w d fp ∧ Off fp O
  | .own _ => v = some (.ref a)
/-- a frame: the names of a def that runs -/
structure Fr (s₀ : Shared) (O₀ : List Addr) (c : Cx) (env : Env) (σ : List Slot) (P : Nat → Addr) (m cm : Str → Option Value) (s : Shared) : Prop where
  ic : InCallC s₀ env.locals m env.cells cm s
  val : ∀ x i sl, c.own? x = some i → σ[i]? = some sl → SlotV s.heap (O₀ ++ owns σ P) (look env m cm x) (P i) sl
  lst : ∀ i l, σ[i]? = some (.own l) → ∃ vs n fp, vs.size ≤ 16777216 ∧ IsL s.heap (P i) vs n ∧ Rds s.heap vs.toList l fp ∧ Off fp (O₀ ++ owns σ P) ∧ s₀.heap.get? (P i) = none ∧ P i ∉ O₀
  inj : ∀ i j l l', σ[i]? = some (.own l) → σ[j]? = some (.own l') → P i = P j → i = j
  live : Live O₀ s.heap

/-- what a statement does to the rest of the heap -/
structure Tr (env : Env) (s : Shared) (O : List Addr) (s' : Shared) (O' : List Addr) : Prop where
  keep : ∀ b o, s.heap.get? b = some o → b ≠ env.locals → (∀ n, env.cells.lookup n ≠ some b) → b ∉ O → s'.heap.get? b = some o
  new : ∀ b ∈ O', b ∈ O ∨ s.heap.get? b = none
  live : ∀ b, s'.heap.get? b = none → s.heap.get? b = none

section
variable {prog : Program} {w : World} {A : Around} {E : Value → Shared → Prop} {s₀ s s' s'' : Shared} {O₀ O O' O'' : List Addr} {c : Cx} {env : Env} {σ : List Slot} {P : Nat → Addr} {m cm : Str → Option Value}

theorem Tr.refl : Tr env s O s O := ⟨fun _ _ e _ _ _ => e, fun _ h => .inl h, fun _ h => h⟩
theorem Tr.trans (x : Tr env s O s' O') (y : Tr env s' O' s'' O'') : Tr env s O s'' O'' := by
  refine ⟨fun b o e h1 h2 h3 => y.keep b o (x.keep b o e h1 h2 h3) h1 h2 fun h4 => ?_, fun b hb => ?_, fun b hb => x.live b (y.live b hb)⟩
  · rcases x.new b h4 with h | h
    · exact h3 h
    · rw [e] at h; cases h
  · rcases y.new b hb with h | h
    · exact x.new b h
    · exact .inr (x.live b h)
theorem Go.tr (g : Go s s') : Tr env s O s' O := ⟨fun b o e _ _ _ => g.kp b o e, fun _ h => .inl h, fun b h => by
  cases e : s.heap.get? b with
  | none => rfl
  | some o => rw [g.kp b o e] at h; cases h⟩
theorem Tr.sub {O₂ : List Addr} (x : Tr env s O s' O') (h : ∀ b ∈ O₂, b ∈ O') : Tr env s O s' O₂ := ⟨x.keep, fun b hb => x.new b (h b hb), x.live⟩

theorem ic_go (ic : InCallC s₀ env.locals m env.cells cm s) (g : Go s s') : InCallC s₀ env.locals m env.cells cm s' := by
  obtain ⟨h', t', rfl, k⟩ := g
  obtain ⟨⟨⟨h, t, rfl⟩, ns, kp, fr⟩, c1, c2, c3⟩ := ic
  exact ⟨⟨⟨_, _, rfl⟩, ns.keeps k, fun b o e => k b o (kp b o e), fr⟩, fun n a e => (c1 n a e).keeps k, c2, c3⟩
theorem SlotV.kp {h h' : Heap} {v : Option Value} {a : Addr} {sl : Slot} (x : SlotV h O v a sl) (k : KP h h') : SlotV h' O v a sl := by
  cases sl with
  | unset => trivial
  | frz d => obtain ⟨w, fp, e, r, o⟩ := x; exact ⟨w, fp, e, r.kp k, o⟩
  | own l => exact x
theorem Fr.go (F : Fr s₀ O₀ c env σ P m cm s) (g : Go s s') : Fr s₀ O₀ c env σ P m cm s' := by
  refine ⟨ic_go F.ic g, fun x i sl h1 h2 => (F.val x i sl h1 h2).kp g.kp, fun i l h => ?_, F.inj, F.live.kp g.kp⟩
  obtain ⟨vs, n, fp, h1, h2, h3, h4, h5⟩ := F.lst i l h
  exact ⟨vs, n, fp, h1, g.kp _ _ h2, h3.kp g.kp, h4, h5⟩
theorem Fr.gs (F : Fr s₀ O₀ c env σ P m cm s) : Go s₀ s := by
  obtain ⟨h, t, e⟩ := F.ic.toInCall.same
  exact ⟨h, t, e, by have := F.ic.toInCall.keep; rw [e] at this; exact this⟩
theorem Fr.liveA (F : Fr s₀ O₀ c env σ P m cm s) : Live O₀ s.heap := F.live
theorem Fr.liveF (F : Fr s₀ O₀ c env σ P m cm s) : Live (O₀ ++ owns σ P) s.heap := fun a ha => by
  rcases List.mem_append.mp ha with h | h
  · exact F.liveA a h
  · obtain ⟨i, l, h1, rfl⟩ := mem_owns.mp h
    obtain ⟨vs, n, fp, _, h2, _⟩ := F.lst i l h1
    exact ⟨_, h2⟩

theorem Fr.varAt {x : Str} {i : Nat} {v : Value} (EO : EnvOk c env) (F : Fr s₀ O₀ c env σ P m cm s) (hx : c.own? x = some i) (hv : look env m cm x = some v) : VarAt s.heap env x v := by
  obtain ⟨_, _, _, hk, _⟩ := own_kind hx
  unfold look at hv
  have hkk : env.kindOf x = c.sc.names.lookup x := by unfold Env.kindOf; rw [EO.sc]
  rcases hk with h | h
  · rw [if_pos (hkk.trans h)] at hv
    exact .inl ⟨hkk.trans h, m, F.ic.toInCall.ns, hv⟩
  · have hne : ¬ env.kindOf x = some .local := by rcases h with h | h <;> (rw [hkk, h]; decide)
    rw [if_neg hne] at hv
    obtain ⟨a, ha⟩ := EO.cells x h
    have hor : env.kindOf x = some .cell ∨ env.kindOf x = some .free := h.elim (fun q => .inl (hkk.trans q)) fun q => .inr (hkk.trans q)
    exact .inr ⟨hor, a, ha, hv ▸ F.ic.cell x a ha⟩

theorem Fr.visF (EO : EnvOk c env) (F : Fr s₀ O₀ c env σ P m cm s) : Vis c s.heap env (O₀ ++ owns σ P) (fzs σ) := by
  intro x i d hx hd
  simp only [fzs, List.getElem?_map, Option.bind_eq_some_iff, Option.map_eq_some_iff, id] at hd
  obtain ⟨_, ⟨sl, h1, rfl⟩, hd⟩ := hd
  cases sl with
  | frz d' =>
    cases hd
    obtain ⟨v, fp, e, r, o⟩ := F.val x i _ hx h1
    exact ⟨v, fp, F.varAt EO hx e, r, o⟩
  | _ => cases hd
theorem Fr.visA (EO : EnvOk c env) (F : Fr s₀ O₀ c env σ P m cm s) : Vis c s.heap env O₀ (alls σ) := by
  intro x i d hx hd
  simp only [alls, List.getElem?_map, Option.bind_eq_some_iff, Option.map_eq_some_iff, id] at hd
  obtain ⟨_, ⟨sl, h1, rfl⟩, hd⟩ := hd
  cases sl with
  | frz d' =>
    cases hd
    obtain ⟨v, fp, e, r, o⟩ := F.val x i _ hx h1
    exact ⟨v, fp, F.varAt EO hx e, r, fun a ha hm => o a ha (List.mem_append_left _ hm)⟩
  | own l =>
    cases hd
    have e := F.val x i _ hx h1
    obtain ⟨vs, n, fp, z, h2, h3, h4, h5, h6⟩ := F.lst i l h1
    refine ⟨_, _, F.varAt EO hx e, .list z h2 h3, fun a ha hm => ?_⟩
    rcases List.mem_cons.mp ha with rfl | ha
    · exact h6 hm
    · exact h4 a ha (List.mem_append_left _ hm)
  | unset => cases hd

theorem ns_ne_seq {h : Heap} {L b : Addr} {m : Str → Option Value} {o : Obj} {vs : Array Value} {n : Nat} (hn : h.Ns L m) (hb : h.get? b = some o) (hd : o.data = .seq vs n) : b ≠ L := fun e => by
  obtain ⟨o', es, ep, h1, h2, _⟩ := hn
  rw [← e, hb] at h1; cases h1
  rw [hd] at h2; cases h2
theorem cell_ne_seq {h : Heap} {L b : Addr} {v : Option Value} {o : Obj} {vs : Array Value} {n : Nat} (hn : h.IsCell L v) (hb : h.get? b = some o) (hd : o.data = .seq vs n) : b ≠ L := fun e => by
  obtain ⟨o', h1, h2⟩ := hn
  rw [← e, hb] at h1; cases h1
  rw [hd] at h2; cases h2

/-- storing a name, and nothing else -/
theorem store_raw {x : Str} {i : Nat} {v : Value} {Q : Unit → Shared → Prop} (EO : EnvOk c env) (ic : InCallC s₀ env.locals m env.cells cm s) (hx : c.store? x = some i)
    (hQ : ∀ s' m' cm', InCallC s₀ env.locals m' env.cells cm' s' → (∀ y, look env m' cm' y = if y = x then some v else look env m cm y) →
      (∀ b o vs n, s.heap.get? b = some o → o.data = .seq vs n → s'.heap.get? b = some o) → (∀ O, Tr env s O s' O) → Q () s') :
    wpAny (model prog w) A (storeName env x v) Q E s := by
  have hk : env.scope.kind = .function := by rw [EO.sc]; exact EO.fn
  have hkk : env.kindOf x = c.sc.names.lookup x := by unfold Env.kindOf; rw [EO.sc]
  unfold Cx.store? at hx
  split at hx
  · rename_i hl
    have hl' := hkk.trans hl
    refine wpAny_storeName_local hl' ic.toInCall.ns (fun h' hn' hs' => hQ _ (fun y => if y = x then some v else m y) cm ⟨⟨?_, hn', fun b o e => ?_, ic.toInCall.fresh⟩, fun k a ha => ?_, ic.apart, ic.above⟩ (fun y => ?_) (fun b o vs n e1 e2 => ?_) fun O => ⟨fun b o e h1 _ _ => hs'.extBut b o h1 e, fun _ h => .inl h, fun b h => ?_⟩) (by rw [hk]; rfl)
    · obtain ⟨h₁, tk, rfl⟩ := ic.toInCall.same
      exact ⟨h', _, rfl⟩
    · exact hs'.extBut b o (Nat.ne_of_lt (Nat.lt_of_lt_of_le (Heap.lt_size e) ic.toInCall.fresh)) (ic.toInCall.keep b o e)
    · exact (ic.cell k a ha).sameBut hs' (Nat.ne_of_gt (ic.above k a (mem_of_lookup ha)))
    · unfold look
      by_cases hy : y = x
      · subst hy; rw [if_pos hl', if_pos rfl]; exact if_pos rfl
      · simp only [if_neg hy]
    · exact hs'.extBut b o (ns_ne_seq ic.toInCall.ns e1 e2) e1
    · by_cases hb : b = env.locals
      · obtain ⟨o', _, _, h1, _⟩ := hn'
        rw [hb] at h; change h'.get? _ = none at h; rw [h1] at h; cases h
      · rw [← hs'.2 b hb]; exact h
  · rename_i hl
    have hl' := hkk.trans hl
    have hne : ¬ env.kindOf x = some .local := by rw [hl']; decide
    obtain ⟨a, ha⟩ := EO.cells x (.inl hl)
    have hLa := ic.above x a (mem_of_lookup ha)
    refine wpAny_storeName_cell hk hl' ha (ic.cell x a ha) fun h' hc' hs' => hQ _ m (fun y => if y = x then some v else cm y) ⟨⟨?_, ic.toInCall.ns.sameBut hs' (Nat.ne_of_lt hLa), fun b o e => ?_, ic.toInCall.fresh⟩, fun k a' ha' => ?_, ic.apart, ic.above⟩ (fun y => ?_) (fun b o vs n e1 e2 => ?_) fun O => ⟨fun b o e _ h2 _ => hs'.extBut b o (fun q => h2 x (q ▸ ha)) e, fun _ h => .inl h, fun b h => ?_⟩
    · obtain ⟨h₁, tk, rfl⟩ := ic.toInCall.same
      exact ⟨h', _, rfl⟩
    · exact hs'.extBut b o (Nat.ne_of_lt (Nat.lt_trans (Nat.lt_of_lt_of_le (Heap.lt_size e) ic.toInCall.fresh) hLa)) (ic.toInCall.keep b o e)
    · by_cases hkn : k = x
      · subst hkn
        rw [ha] at ha'; cases ha'
        simpa using hc'
      · rw [if_neg hkn]
        exact (ic.cell k a' ha').sameBut hs' fun e => hkn (name_of_addr ic.apart (mem_of_lookup ha') (e ▸ mem_of_lookup ha))
    · unfold look
      by_cases hy : y = x
      · subst hy; rw [if_neg hne, if_pos rfl]; exact if_pos rfl
      · simp only [if_neg hy]
    · exact hs'.extBut b o (cell_ne_seq (ic.cell x a ha) e1 e2) e1
    · by_cases hb : b = a
      · obtain ⟨o', h1, _⟩ := hc'
        rw [hb] at h; change h'.get? _ = none at h; rw [h1] at h; cases h
      · rw [← hs'.2 b hb]; exact h
  · cases hx
end
end Mine
namespace Mine
open PySem PySem.SeqAt PyProof.Rows PySem.Calls

/-- a frame's values -/
structure Vals (s₀ : Shared) (O₀ : List Addr) (c : Cx) (σ : List Slot) (P : Nat → Addr) (lk : Str → Option Value) (h : Heap) : Prop where
  val : ∀ x i sl, c.own? x = some i → σ[i]? = some sl → SlotV h (O₀ ++ owns σ P) (lk x) (P i) sl
  lst : ∀ i l, σ[i]? = some (.own l) → ∃ vs n fp, vs.size ≤ 16777216 ∧ IsL h (P i) vs n ∧ Rds h vs.toList l fp ∧ Off fp (O₀ ++ owns σ P) ∧ s₀.heap.get? (P i) = none ∧ P i ∉ O₀
  inj : ∀ i j l l', σ[i]? = some (.own l) → σ[j]? = some (.own l') → P i = P j → i = j
  live : Live O₀ h

section
variable {prog : Program} {w : World} {A : Around} {E : Value → Shared → Prop} {s₀ s s' s'' : Shared} {O₀ O O' O'' : List Addr} {c : Cx} {env : Env} {σ : List Slot} {P : Nat → Addr} {m cm lk : Str → Option Value} {h h' : Heap}

theorem Fr.vals (F : Fr s₀ O₀ c env σ P m cm s) : Vals s₀ O₀ c σ P (look env m cm) s.heap := ⟨F.val, F.lst, F.inj, F.live⟩
theorem Vals.fr (V : Vals s₀ O₀ c σ P (look env m cm) s.heap) (ic : InCallC s₀ env.locals m env.cells cm s) : Fr s₀ O₀ c env σ P m cm s := ⟨ic, V.val, V.lst, V.inj, V.live⟩

theorem off_sub {fp O O' : List Addr} (o : Off fp O) (hs : ∀ b ∈ O', b ∈ O) : Off fp O' := fun a ha hm => o a ha (hs a hm)
theorem sub_app {O O' : List Addr} (hs : ∀ b ∈ O', b ∈ O) : ∀ b ∈ O₀ ++ O', b ∈ O₀ ++ O := fun b hb => by
  rcases List.mem_append.mp hb with h | h
  · exact List.mem_append_left _ h
  · exact List.mem_append_right _ (hs b h)
theorem Rd.sq {v : Value} {d : D} {fp : List Addr} (r : Rd h v d fp) (k : ∀ b o vs n, h.get? b = some o → o.data = .seq vs n → h'.get? b = some o) : Rd h' v d fp :=
  r.at fun b hb o e => by
    obtain ⟨o', vs, n, e1, e2⟩ := r.seqs b hb
    rw [e] at e1; cases e1
    exact k b o vs n e e2
theorem Rds.sq {v : List Value} {d : List D} {fp : List Addr} (r : Rds h v d fp) (k : ∀ b o vs n, h.get? b = some o → o.data = .seq vs n → h'.get? b = some o) : Rds h' v d fp :=
  r.at fun b hb o e => by
    obtain ⟨o', vs, n, e1, e2⟩ := r.seqs b hb
    rw [e] at e1; cases e1
    exact k b o vs n e e2
theorem Vals.sq (V : Vals s₀ O₀ c σ P lk h) (k : ∀ b o vs n, h.get? b = some o → o.data = .seq vs n → h'.get? b = some o) (lv : ∀ b ∈ O₀, h'.get? b = none → h.get? b = none) : Vals s₀ O₀ c σ P lk h' := by
  refine ⟨fun x i sl h1 h2 => ?_, fun i l h1 => ?_, V.inj, fun b hb => ?_⟩
  · have := V.val x i sl h1 h2
    cases sl with
    | unset => trivial
    | frz d => obtain ⟨w, fp, e, r, o⟩ := this; exact ⟨w, fp, e, r.sq k, o⟩
    | own l => exact this
  · obtain ⟨vs, n, fp, z, h2, h3, h4, h5⟩ := V.lst i l h1
    exact ⟨vs, n, fp, z, k _ _ _ _ h2 rfl, h3.sq k, h4, h5⟩
  · cases e : h'.get? b with
    | some o => exact ⟨o, rfl⟩
    | none =>
      obtain ⟨o, e'⟩ := V.live b hb
      rw [lv b hb e] at e'; cases e'
theorem Vals.lk' {lk' : Str → Option Value} (V : Vals s₀ O₀ c σ P lk h) (e : ∀ x, lk' x = lk x) : Vals s₀ O₀ c σ P lk' h := by
  rw [show lk' = lk from funext e]; exact V

theorem set_get {α : Type} {l : List α} {i j : Nat} {a b : α} (h : (l.set i a)[j]? = some b) : (i = j ∧ b = a) ∨ (i ≠ j ∧ l[j]? = some b) := by
  rw [List.getElem?_set] at h
  split at h
  · rename_i e
    split at h
    · cases h; exact .inl ⟨e, rfl⟩
    · cases h
  · rename_i e; exact .inr ⟨e, h⟩

theorem owns_frz {i : Nat} {d : D} : ∀ b ∈ owns (σ.set i (.frz d)) P, b ∈ owns σ P := fun b hb => by
  obtain ⟨j, l, h1, h2⟩ := mem_owns.mp hb
  rcases set_get h1 with ⟨_, e⟩ | ⟨_, e⟩
  · cases e
  · exact mem_owns.mpr ⟨j, l, e, h2⟩

noncomputable def Inj (c : Cx) : Prop := ∀ x y i, c.Γ.lookup x = some i → c.Γ.lookup y = some i → x = y
theorem own_look {x : Str} {i : Nat} (h : c.own? x = some i) : c.Γ.lookup x = some i := (own_kind h).2.2.2.2

theorem Vals.setF {x : Str} {i : Nat} {v : Value} {d : D} {fp : List Addr} (V : Vals s₀ O₀ c σ P lk h) (J : Inj c) (hx : c.Γ.lookup x = some i) (r : Rd h v d fp) (o : Off fp (O₀ ++ owns (σ.set i (.frz d)) P)) :
    Vals s₀ O₀ c (σ.set i (.frz d)) P (fun y => if y = x then some v else lk y) h := by
  refine ⟨fun y j sl h1 h2 => ?_, fun j l h1 => ?_, fun j k l l' h1 h2 => ?_, V.live⟩
  · have hy := own_look h1
    rcases set_get h2 with ⟨e, rfl⟩ | ⟨e, h2⟩
    · subst e
      exact ⟨v, fp, if_pos (J _ _ _ hy hx), r, o⟩
    · have hne : y ≠ x := fun q => by subst q; rw [hx] at hy; cases hy; exact e rfl
      show SlotV h _ (if y = x then some v else lk y) _ sl
      rw [if_neg hne]
      have := V.val y j sl h1 h2
      cases sl with
      | unset => trivial
      | frz d' => obtain ⟨w, fq, q, r', o'⟩ := this; exact ⟨w, fq, q, r', off_sub o' (sub_app owns_frz)⟩
      | own l => exact this
  · rcases set_get h1 with ⟨_, e⟩ | ⟨_, e⟩
    · cases e
    · obtain ⟨vs, n, fq, z, h2, h3, h4, h5⟩ := V.lst j l e
      exact ⟨vs, n, fq, z, h2, h3, off_sub h4 (sub_app owns_frz), h5⟩
  · rcases set_get h1 with ⟨_, e⟩ | ⟨_, e⟩
    · cases e
    · rcases set_get h2 with ⟨_, e'⟩ | ⟨_, e'⟩
      · cases e'
      · exact V.inj j k l l' e e'

noncomputable def putP (P : Nat → Addr) (i : Nat) (a : Addr) : Nat → Addr := fun j => if j = i then a else P j
theorem owns_own {i : Nat} {l : List D} {a : Addr} : ∀ b ∈ owns (σ.set i (.own l)) (putP P i a), b = a ∨ b ∈ owns σ P := fun b hb => by
  obtain ⟨j, l', h1, h2⟩ := mem_owns.mp hb
  unfold putP at h2
  rcases set_get h1 with ⟨e, _⟩ | ⟨e, h1⟩
  · rw [if_pos e.symm] at h2; exact .inl h2.symm
  · rw [if_neg (Ne.symm e)] at h2; exact .inr (mem_owns.mpr ⟨j, l', h1, h2⟩)

theorem Vals.setO {x : Str} {i : Nat} {a : Addr} {l : List D} {vs : Array Value} {n : Nat} {fq : List Addr} (V : Vals s₀ O₀ c σ P lk h) (k : KP h h') (k0 : KP s₀.heap h) (J : Inj c) (hx : c.Γ.lookup x = some i) (ha : h.get? a = none)
    (z : vs.size ≤ 16777216) (hl : IsL h' a vs n) (r : Rds h' vs.toList l fq) (haf : a ∉ fq) (o : Off fq (O₀ ++ owns σ P)) :
    Vals s₀ O₀ c (σ.set i (.own l)) (putP P i a) (fun y => if y = x then some (.ref a) else lk y) h' := by
  have hs0 : s₀.heap.get? a = none := by
    cases e : s₀.heap.get? a with
    | none => rfl
    | some o => rw [k0 a o e] at ha; cases ha
  have offa : ∀ fp : List Addr, (∀ b ∈ fp, ∃ o, h.get? b = some o) → Off fp (O₀ ++ owns σ P) → Off fp (O₀ ++ owns (σ.set i (.own l)) (putP P i a)) := fun fp lv of b hb hm => by
    rcases List.mem_append.mp hm with q | q
    · exact of b hb (List.mem_append_left _ q)
    · rcases owns_own b q with rfl | q
      · obtain ⟨o, e⟩ := lv b hb; rw [ha] at e; cases e
      · exact of b hb (List.mem_append_right _ q)
  refine ⟨fun y j sl h1 h2 => ?_, fun j l' h1 => ?_, fun j q l' l'' h1 h2 e => ?_, V.live.kp k⟩
  · have hy := own_look h1
    rcases set_get h2 with ⟨e, rfl⟩ | ⟨e, h2⟩
    · subst e
      show (if y = x then some (Value.ref a) else lk y) = some (.ref (putP P i a i))
      rw [if_pos (J _ _ _ hy hx), putP, if_pos rfl]
    · have hne : y ≠ x := fun q => by subst q; rw [hx] at hy; cases hy; exact e rfl
      show SlotV h' _ (if y = x then some (.ref a) else lk y) (putP P i a j) sl
      rw [if_neg hne, putP, if_neg (Ne.symm e)]
      have := V.val y j sl h1 h2
      cases sl with
      | unset => trivial
      | frz d' => obtain ⟨w, fq, q, r', o'⟩ := this; exact ⟨w, fq, q, r'.kp k, offa fq r'.live o'⟩
      | own l => exact this
  · rcases set_get h1 with ⟨e, e'⟩ | ⟨e, h1⟩
    · cases e'
      subst e
      rw [putP, if_pos rfl]
      refine ⟨vs, n, fq, z, hl, r, fun b hb hm => ?_, hs0, fun q => by obtain ⟨o, e⟩ := V.live a q; rw [ha] at e; cases e⟩
      rcases List.mem_append.mp hm with q | q
      · exact o b hb (List.mem_append_left _ q)
      · rcases owns_own b q with rfl | q
        · exact haf hb
        · exact o b hb (List.mem_append_right _ q)
    · rw [putP, if_neg (Ne.symm e)]
      obtain ⟨ws, nn, fr, z', h2, h3, h4, h5⟩ := V.lst j l' h1
      exact ⟨ws, nn, fr, z', k _ _ h2, h3.kp k, offa fr h3.live h4, h5⟩
  · have old : ∀ j l', σ[j]? = some (.own l') → P j ≠ a := fun j l' h1 e => by
      obtain ⟨ws, nn, fr, z', h2, _⟩ := V.lst j l' h1
      rw [e] at h2
      rw [show h.get? a = _ from h2] at ha; cases ha
    unfold putP at e
    rcases set_get h1 with ⟨e1, _⟩ | ⟨e1, h1⟩ <;> rcases set_get h2 with ⟨e2, _⟩ | ⟨e2, h2⟩
    · rw [← e1, ← e2]
    · rw [if_pos e1.symm, if_neg (Ne.symm e2)] at e; exact absurd e.symm (old q l'' h2)
    · rw [if_pos e2.symm, if_neg (Ne.symm e1)] at e; exact absurd e (old j l' h1)
    · rw [if_neg (Ne.symm e1), if_neg (Ne.symm e2)] at e; exact V.inj j q l' l'' h1 h2 e

theorem owns_freeze {i : Nat} : ∀ b ∈ owns (σ.set i ((σ[i]?.getD .unset).freeze)) P, b ∈ owns σ P := fun b hb => by
  obtain ⟨j, l, h1, h2⟩ := mem_owns.mp hb
  rcases set_get h1 with ⟨e, e'⟩ | ⟨_, e⟩
  · cases hs : σ[i]?.getD .unset with
    | unset => rw [hs] at e'; cases e'
    | frz d => rw [hs] at e'; cases e'
    | own l => rw [hs] at e'; cases e'
  · exact mem_owns.mpr ⟨j, l, e, h2⟩
theorem Vals.freeze {i : Nat} (V : Vals s₀ O₀ c σ P lk h) : Vals s₀ O₀ c (σ.set i ((σ[i]?.getD .unset).freeze)) P lk h := by
  refine ⟨fun y j sl h1 h2 => ?_, fun j l h1 => ?_, fun j k l l' h1 h2 => ?_, V.live⟩
  · rcases set_get h2 with ⟨e, e'⟩ | ⟨e, h2⟩
    · subst e
      have hlt : i < σ.length := by
        obtain ⟨q, _⟩ := List.getElem?_eq_some_iff.mp h2
        simpa using q
      obtain ⟨s1, hs1⟩ : ∃ s1, σ[i]? = some s1 := ⟨_, List.getElem?_eq_getElem hlt⟩
      have hv := V.val y i s1 h1 hs1
      rw [hs1, Option.getD_some] at e'
      subst e'
      cases s1 with
      | unset => trivial
      | frz d => obtain ⟨w, fp, q, r, o⟩ := hv; exact ⟨w, fp, q, r, off_sub o (sub_app owns_freeze)⟩
      | own l =>
        obtain ⟨vs, n, fp, z, h2', h3, h4, h5, h6⟩ := V.lst i l hs1
        refine ⟨_, _, hv, .list z h2' h3, fun b hb hm => ?_⟩
        rcases List.mem_cons.mp hb with rfl | hb
        · rcases List.mem_append.mp hm with q | q
          · exact h6 q
          · obtain ⟨j, l', q1, q2⟩ := mem_owns.mp q
            rcases set_get q1 with ⟨_, e⟩ | ⟨ne, e⟩
            · rw [hs1] at e; cases e
            · exact ne (V.inj i j l l' hs1 e q2.symm)
        · exact h4 b hb (sub_app owns_freeze b hm)
    · have := V.val y j sl h1 h2
      cases sl with
      | unset => trivial
      | frz d' => obtain ⟨w, fq, q, r', o'⟩ := this; exact ⟨w, fq, q, r', off_sub o' (sub_app owns_freeze)⟩
      | own l => exact this
  · have hj : σ[j]? = some (.own l) := by
      rcases set_get h1 with ⟨e, e'⟩ | ⟨_, e⟩
      · cases hs : σ[i]?.getD .unset <;> (rw [hs] at e'; cases e')
      · exact e
    obtain ⟨vs, n, fq, z, h2, h3, h4, h5⟩ := V.lst j l hj
    exact ⟨vs, n, fq, z, h2, h3, off_sub h4 (sub_app owns_freeze), h5⟩
  · have hj : ∀ {j : Nat} {l : List D}, (σ.set i ((σ[i]?.getD .unset).freeze))[j]? = some (Slot.own l) → σ[j]? = some (Slot.own l) := fun {j l} h1 => by
      rcases set_get h1 with ⟨e, e'⟩ | ⟨_, e⟩
      · cases hs : σ[i]?.getD .unset <;> (rw [hs] at e'; cases e')
      · exact e
    exact V.inj j k l l' (hj h1) (hj h2)
theorem freezes : ∀ (fz : List Nat) {σ : List Slot}, Vals s₀ O₀ c σ P lk h → Vals s₀ O₀ c (freezeAt σ fz) P lk h ∧ (∀ b ∈ owns (freezeAt σ fz) P, b ∈ owns σ P) ∧ (freezeAt σ fz).length = σ.length
  | [], _, V => ⟨V, fun _ h => h, rfl⟩
  | i :: r, σ, V => by
    obtain ⟨h1, h2, h3⟩ := freezes r (V.freeze (i := i))
    exact ⟨h1, fun b hb => owns_freeze b (h2 b hb), h3.trans (List.length_set ..)⟩

theorem owns_same {i : Nat} {l l₀ : List D} (h0 : σ[i]? = some (.own l₀)) : ∀ b, b ∈ owns (σ.set i (.own l)) P ↔ b ∈ owns σ P := fun b => by
  constructor
  · intro hb
    obtain ⟨j, l', h1, h2⟩ := mem_owns.mp hb
    rcases set_get h1 with ⟨e, _⟩ | ⟨_, e⟩
    · exact mem_owns.mpr ⟨i, l₀, h0, e ▸ h2⟩
    · exact mem_owns.mpr ⟨j, l', e, h2⟩
  · intro hb
    obtain ⟨j, l', h1, h2⟩ := mem_owns.mp hb
    by_cases e : i = j
    · subst e
      obtain ⟨hlt, _⟩ := List.getElem?_eq_some_iff.mp h1
      exact mem_owns.mpr ⟨i, l, by rw [List.getElem?_set]; simp [hlt], h2⟩
    · exact mem_owns.mpr ⟨j, l', by rw [List.getElem?_set, if_neg e]; exact h1, h2⟩

/-- a list changed in place -/
theorem Vals.mut {i : Nat} {l₀ l : List D} {vs : Array Value} {n : Nat} {fq : List Addr} (V : Vals s₀ O₀ c σ P lk h) (h0 : σ[i]? = some (.own l₀)) (hs : ∀ b, b ≠ P i → h'.get? b = h.get? b)
    (z : vs.size ≤ 16777216) (hl : IsL h' (P i) vs n) (r : Rds h vs.toList l fq) (o : Off fq (O₀ ++ owns σ P)) : Vals s₀ O₀ c (σ.set i (.own l)) P lk h' := by
  have hin : P i ∈ O₀ ++ owns σ P := List.mem_append_right _ (mem_owns.mpr ⟨i, l₀, h0, rfl⟩)
  have hsub : ∀ b ∈ O₀ ++ owns (σ.set i (.own l)) P, b ∈ O₀ ++ owns σ P := sub_app fun b => (owns_same h0 b).mp
  have mv : ∀ {v : Value} {d : D} {fp : List Addr}, Rd h v d fp → Off fp (O₀ ++ owns σ P) → Rd h' v d fp := fun r o => r.at fun b hb ob e => (hs b fun q => o b hb (q ▸ hin)).trans e
  have mvs : ∀ {v : List Value} {d : List D} {fp : List Addr}, Rds h v d fp → Off fp (O₀ ++ owns σ P) → Rds h' v d fp := fun r o => r.at fun b hb ob e => (hs b fun q => o b hb (q ▸ hin)).trans e
  refine ⟨fun y j sl h1 h2 => ?_, fun j l' h1 => ?_, fun j k l l' h1 h2 e => ?_, fun b hb => ?_⟩
  · rcases set_get h2 with ⟨e, rfl⟩ | ⟨e, h2⟩
    · subst e
      exact V.val y i _ h1 h0
    · have := V.val y j sl h1 h2
      cases sl with
      | unset => trivial
      | frz d' => obtain ⟨w, fq, q, r', o'⟩ := this; exact ⟨w, fq, q, mv r' o', off_sub o' hsub⟩
      | own l => exact this
  · rcases set_get h1 with ⟨e, e'⟩ | ⟨e, h1⟩
    · cases e'
      subst e
      obtain ⟨_, _, _, _, _, _, _, h5⟩ := V.lst i l₀ h0
      exact ⟨vs, n, fq, z, hl, mvs r o, off_sub o hsub, h5⟩
    · obtain ⟨ws, nn, fr, z', h2, h3, h4, h5⟩ := V.lst j l' h1
      exact ⟨ws, nn, fr, z', (hs _ fun q => e (V.inj i j l₀ l' h0 h1 q.symm)).trans h2, mvs h3 h4, off_sub h4 hsub, h5⟩
  · have hj : ∀ {j : Nat} {l₁ l' : List D}, (σ.set i (Slot.own l₁))[j]? = some (Slot.own l') → ∃ l'', σ[j]? = some (Slot.own l'') := fun {j l₁ l'} h1 => by
      rcases set_get h1 with ⟨e, _⟩ | ⟨_, e⟩
      · exact ⟨l₀, e ▸ h0⟩
      · exact ⟨_, e⟩
    obtain ⟨_, q1⟩ := hj h1
    obtain ⟨_, q2⟩ := hj h2
    exact V.inj j k _ _ q1 q2 e
  · obtain ⟨_, _, _, _, _, _, _, _, h6⟩ := V.lst i l₀ h0
    obtain ⟨o, e⟩ := V.live b hb
    exact ⟨o, (hs b fun q => h6 (q ▸ hb)).trans e⟩
theorem Fr.mut {i : Nat} {l₀ l : List D} {vs : Array Value} {n : Nat} {fq : List Addr} {tk : Nat} (F : Fr s₀ O₀ c env σ P m cm s) (h0 : σ[i]? = some (.own l₀)) (hs : ∀ b, b ≠ P i → h'.get? b = s.heap.get? b)
    (z : vs.size ≤ 16777216) (hl : IsL h' (P i) vs n) (r : Rds s.heap vs.toList l fq) (o : Off fq (O₀ ++ owns σ P)) :
    Fr s₀ O₀ c env (σ.set i (.own l)) P m cm { s with heap := h', toks := tk } ∧ Tr env s (owns σ P) { s with heap := h', toks := tk } (owns (σ.set i (.own l)) P) := by
  obtain ⟨ws, nn, fr, z', h2, h3, h4, h5, _⟩ := F.lst i l₀ h0
  have hic := F.ic
  refine ⟨Vals.fr (s := { s with heap := h', toks := tk }) (F.vals.mut h0 hs z hl r o) ⟨⟨?_, ?_, fun b ob e => ?_, hic.toInCall.fresh⟩, fun k a ha => ?_, hic.apart, hic.above⟩, fun b ob e _ _ hb => ?_, fun b hb => .inl ((owns_same h0 b).mp hb), fun b hb => ?_⟩
  · obtain ⟨hh, t, rfl⟩ := hic.toInCall.same
    exact ⟨_, _, rfl⟩
  · obtain ⟨o', es, ep, q1, q2, q3⟩ := hic.toInCall.ns
    refine ⟨o', es, ep, (hs _ fun q => ?_).trans q1, q2, q3⟩
    exact ns_ne_seq hic.toInCall.ns h2 rfl q.symm
  · refine (hs _ fun q => ?_).trans (hic.toInCall.keep b ob e)
    rw [q, h5] at e; cases e
  · obtain ⟨o', q1, q2⟩ := hic.cell k a ha
    exact ⟨o', (hs _ fun q => cell_ne_seq (hic.cell k a ha) h2 rfl q.symm).trans q1, q2⟩
  · exact (hs b fun q => hb (mem_owns.mpr ⟨i, l₀, h0, q.symm⟩)).trans e
  · by_cases q : b = P i
    · change h'.get? b = none at hb
      rw [q, show h'.get? (P i) = _ from hl] at hb; cases hb
    · rw [← hs b q]; exact hb

/-- storing -/
theorem store_frz {x : Str} {i : Nat} {v : Value} {d : D} {fp : List Addr} (EO : EnvOk c env) (J : Inj c) (F : Fr s₀ O₀ c env σ P m cm s) (hx : c.store? x = some i) (r : Rd s.heap v d fp) (o : Off fp (O₀ ++ owns (σ.set i (.frz d)) P)) :
    wpAny (model prog w) A (storeName env x v) (fun _ s' => ∃ m' cm', Fr s₀ O₀ c env (σ.set i (.frz d)) P m' cm' s' ∧ Tr env s (owns σ P) s' (owns (σ.set i (.frz d)) P) ∧ ∀ O, Tr env s O s' O) E s := by
  have hΓ : c.Γ.lookup x = some i := by
    unfold Cx.store? at hx
    split at hx
    · exact hx
    · exact hx
    · cases hx
  refine store_raw EO F.ic hx fun s' m' cm' ic' hl k tr => ⟨m', cm', Vals.fr ?_ ic', (tr _).sub owns_frz, tr⟩
  exact ((F.vals.setF J hΓ r o).sq k fun b _ => (tr []).live b).lk' hl
theorem store_own {x : Str} {i : Nat} {v : Value} {l : List D} (EO : EnvOk c env) (J : Inj c) (F : Fr s₀ O₀ c env σ P m cm s) (hx : c.store? x = some i) (g : Go s s') (nw : New s.heap s'.heap (O₀ ++ owns σ P) v l) :
    wpAny (model prog w) A (storeName env x v) (fun _ s'' => ∃ P' m' cm', Fr s₀ O₀ c env (σ.set i (.own l)) P' m' cm' s'' ∧ Tr env s (owns σ P) s'' (owns (σ.set i (.own l)) P') ∧ ∀ O, Tr env s' O s'' O) E s' := by
  have hΓ : c.Γ.lookup x = some i := by
    unfold Cx.store? at hx
    split at hx
    · exact hx
    · exact hx
    · cases hx
  obtain ⟨a, vs, n, fq, rfl, ha, z, hl, r, haf, o⟩ := nw
  refine store_raw EO (F.go g).ic hx fun s'' m' cm' ic' hlk k tr => ⟨putP P i a, m', cm', Vals.fr ?_ ic', ?_, tr⟩
  · exact ((F.vals.setO g.kp F.gs.kp J hΓ ha z hl r haf o).sq k fun b _ => (tr []).live b).lk' hlk
  · refine ⟨fun b ob e h1 h2 h3 => (tr (owns σ P)).keep b ob (g.kp b ob e) h1 h2 h3, fun b hb => ?_, fun b hb => ?_⟩
    · rcases owns_own b hb with rfl | q
      · exact .inr ha
      · exact .inl q
    · exact (Go.tr (env := env) (O := []) g).live b ((tr []).live b hb)

/-- an object that is none of the frame's -/
theorem Fr.other {C : Addr} (F : Fr s₀ O₀ c env σ P m cm s) (hn : ∃ m', s.heap.Ns C m') (hL : C ≠ env.locals) (hc : ∀ k, env.cells.lookup k ≠ some C) (h0 : s₀.heap.get? C = none) (hO : C ∉ O₀) (hs : Heap.SameBut C s.heap h') :
    Fr s₀ O₀ c env σ P m cm { s with heap := h' } := by
  obtain ⟨mC, hn⟩ := hn
  have hic := F.ic
  refine Vals.fr (s := { s with heap := h' }) (F.vals.sq (fun b o vs n e1 e2 => hs.extBut b o (ns_ne_seq hn e1 e2) e1) fun b hb e => (hs.2 b fun q => hO (q ▸ hb)) ▸ e) ⟨⟨?_, hic.toInCall.ns.sameBut hs (Ne.symm hL), fun b o e => ?_, hic.toInCall.fresh⟩, fun k a ha => ?_, hic.apart, hic.above⟩
  · obtain ⟨hh, t, rfl⟩ := hic.toInCall.same
    exact ⟨_, _, rfl⟩
  · refine hs.extBut b o (fun q => ?_) (hic.toInCall.keep b o e)
    rw [q, h0] at e; cases e
  · exact (hic.cell k a ha).sameBut hs fun q => hc k (q ▸ ha)
end
end Mine
namespace Mine
open PySem PySem.SeqAt PyProof.Rows PySem.Calls

section
variable (prog : Program) (w : World) (h₀ : Heap) (lv : Nat) (fns : List Str) (Φ : List (List D → Option D)) (ipv4 : Str → Bool) (W : Nat)

/-- where a def's statements run -/
structure Body (n : Nat) (A : Around) (c : Cx) (env : Env) (s₀ : Shared) : Prop where
  rm : Rm (n + lv) A
  eo : EnvOk c env
  fs : c.fns = fns
  J : Inj c
  kp : KP h₀ s₀.heap

noncomputable def FlOk (O₀ : List Addr) (fl : Fl) (f : Flow) (s : Shared) : Prop :=
  match fl with
  | .nxt => f = .next
  | .brk => f = .brk
  | .cnt => f = .cont
  | .ret d => ∃ v fp, f = .ret v ∧ Rd s.heap v d fp ∧ Off fp O₀
/-- how a statement ends -/
inductive Out (s₀ : Shared) (O₀ : List Addr) (c : Cx) (env : Env) (k : Nat) (s : Shared) (O : List Addr) (σ' : List Slot) (fl : Fl) (f : Flow) (s' : Shared) : Prop
  | mk (P' : Nat → Addr) (m' cm' : Str → Option Value) (F : Fr s₀ O₀ c env σ' P' m' cm' s') (T : Tr env s O s' (owns σ' P')) (hl : σ'.length = k) (hf : FlOk O₀ fl f s') : Out s₀ O₀ c env k s O σ' fl f s'

noncomputable def SS (n : Nat) : Prop := ∀ (A : Around) (E : Value → Shared → Prop) (c : Cx) (env : Env) (mu : List Nat) (st : Stmt) (S : S) (s₀ s : Shared) (O₀ : List Addr) (σ σ' : List Slot) (P : Nat → Addr) (m cm : Str → Option Value) (fl : Fl),
  Body h₀ lv fns n A c env s₀ → c.k = σ.length → Fr s₀ O₀ c env σ P m cm s → cS n c mu st = some S → run Φ ipv4 W S σ = some (σ', fl) →
  wpAny (model prog w) A (exec st env) (Out s₀ O₀ c env c.k s (owns σ P) σ' fl) E s
noncomputable def SB (n : Nat) : Prop := ∀ (A : Around) (E : Value → Shared → Prop) (c : Cx) (env : Env) (mu : List Nat) (st : List Stmt) (S : S) (s₀ s : Shared) (O₀ : List Addr) (σ σ' : List Slot) (P : Nat → Addr) (m cm : Str → Option Value) (fl : Fl),
  Body h₀ lv fns n A c env s₀ → c.k = σ.length → Fr s₀ O₀ c env σ P m cm s → cSs n c mu st = some S → run Φ ipv4 W S σ = some (σ', fl) →
  wpAny (model prog w) A (execs st env) (Out s₀ O₀ c env c.k s (owns σ P) σ' fl) E s
/-- the one regular expression -/
noncomputable def SR (n : Nat) : Prop := ∀ (A : Around) (E : Value → Shared → Prop) (c : Cx) (env : Env) (t e : Expr) (x : X) (s : Shared) (O : List Addr) (σ : List (Option D)) (y : Str), Here h₀ lv fns n A c env s O σ →
  search? c t = some e → cE n c e = some x → ev Φ x σ = some (.str y) → wpAny (model prog w) A (isTrue t env (eval t env)) (fun b s' => b = ipv4 y ∧ Go s s') E s
end

section
variable {prog : Program} {w : World} {mg mb : Str → Option Value} {h₀ : Heap} {lv : Nat} {fns : List Str} {Φ : List (List D → Option D)} {ipv4 : Str → Bool} {W : Nat} {n : Nat} {A : Around} {E : Value → Shared → Prop} {c : Cx} {env : Env} {s s' s₀ : Shared} {O O₀ : List Addr} {σ σ' : List Slot} {P : Nat → Addr} {m cm : Str → Option Value} {fl : Fl} {x : X} {d : D}

theorem Body.down (B : Body h₀ lv fns (n + 1) A c env s₀) : Body h₀ lv fns n A c env s₀ := ⟨B.rm.le (by omega), B.eo, B.fs, B.J, B.kp⟩
theorem hereA (B : Body h₀ lv fns n A c env s₀) (hk : c.k = σ.length) (F : Fr s₀ O₀ c env σ P m cm s) : Here h₀ lv fns n A c env s O₀ (alls σ) :=
  ⟨B.rm, B.eo, B.fs, by rw [hk, alls, List.length_map], KP.trans B.kp F.gs.kp, F.visA B.eo, F.liveA⟩
theorem hereF (B : Body h₀ lv fns n A c env s₀) (hk : c.k = σ.length) (F : Fr s₀ O₀ c env σ P m cm s) : Here h₀ lv fns n A c env s (O₀ ++ owns σ P) (fzs σ) :=
  ⟨B.rm, B.eo, B.fs, by rw [hk, fzs, List.length_map], KP.trans B.kp F.gs.kp, F.visF B.eo, F.liveF⟩

theorem scalar_fp {h : Heap} {v : Value} {fp : List Addr} (r : Rd h v d fp) (hs : scalar d = true) : fp = [] := by
  cases r <;> first | rfl | simp [scalar] at hs

theorem evB_frame {fz : List Nat} {σ₁ : List Slot} (F : Fr s₀ O₀ c env σ P m cm s) (h : evB Φ σ fz x = some (d, σ₁)) :
    Fr s₀ O₀ c env σ₁ P m cm s ∧ (∀ b ∈ owns σ₁ P, b ∈ owns σ P) ∧ σ₁.length = σ.length ∧ (ev Φ x (fzs σ₁) = some d ∨ (scalar d = true ∧ ev Φ x (alls σ) = some d ∧ σ₁ = σ)) := by
  cases fz with
  | nil =>
    simp only [evB, Option.map_eq_some_iff, Prod.mk.injEq] at h
    obtain ⟨d', h1, rfl, rfl⟩ := h
    exact ⟨F, fun _ h => h, rfl, .inl h1⟩
  | cons i r =>
    simp only [evB, Option.bind_eq_some_iff] at h
    obtain ⟨d', h1, h2⟩ := h
    split at h2
    · rename_i hs
      cases h2
      exact ⟨F, fun _ h => h, rfl, .inr ⟨hs, h1, rfl⟩⟩
    · simp only [Option.map_eq_some_iff, Prod.mk.injEq] at h2
      obtain ⟨d'', h3, rfl, rfl⟩ := h2
      obtain ⟨V, h4, h5⟩ := freezes (i :: r) F.vals
      exact ⟨V.fr F.ic, h4, h5, .inl h3⟩
theorem evI_frame {fz : List Nat} {σ₁ : List Slot} (F : Fr s₀ O₀ c env σ P m cm s) (h : evI Φ σ fz x = some (d, σ₁)) :
    Fr s₀ O₀ c env σ₁ P m cm s ∧ (∀ b ∈ owns σ₁ P, b ∈ owns σ P) ∧ σ₁.length = σ.length ∧ ev Φ x (fzs σ₁) = some d := by
  cases fz with
  | nil =>
    simp only [evI, Option.map_eq_some_iff, Prod.mk.injEq] at h
    obtain ⟨d', h1, rfl, rfl⟩ := h
    exact ⟨F, fun _ h => h, rfl, h1⟩
  | cons i r =>
    simp only [evI, Option.map_eq_some_iff, Prod.mk.injEq] at h
    obtain ⟨d'', h3, rfl, rfl⟩ := h
    obtain ⟨V, h4, h5⟩ := freezes (i :: r) F.vals
    exact ⟨V.fr F.ic, h4, h5, h3⟩

theorem evB_val {e : Expr} {σ₁ : List Slot} (hE : SE prog w h₀ lv fns Φ n) (B : Body h₀ lv fns n A c env s₀) (hk : c.k = σ.length) (F : Fr s₀ O₀ c env σ P m cm s) (F₁ : Fr s₀ O₀ c env σ₁ P m cm s) (hl : σ₁.length = σ.length)
    (c1 : cE n c e = some x) (h : ev Φ x (fzs σ₁) = some d ∨ (scalar d = true ∧ ev Φ x (alls σ) = some d ∧ σ₁ = σ)) : wpAny (model prog w) A (eval e env) (PostE s (O₀ ++ owns σ₁ P) d (fresh x)) E s := by
  rcases h with h | ⟨hs, h, _⟩
  · exact hE A E c env e x s _ _ d (hereF B (hk.trans hl.symm) F₁) c1 h
  · refine wpAny_mono (hE A E c env e x s _ _ d (hereA B hk F) c1 h) (fun v s' p => ?_) fun _ _ e => e
    obtain ⟨g, ⟨fp, r, o⟩, _⟩ := p
    obtain rfl := scalar_fp r hs
    exact ⟨g, ⟨[], r, off_nil⟩, fun _ l e => by subst e; simp [scalar] at hs⟩

/-- a value is put into a name -/
theorem put_slot {y : Str} {i : Nat} {v : Value} {fr o : Bool} (B : Body h₀ lv fns n A c env s₀) (F : Fr s₀ O₀ c env σ P m cm s) (hx : c.store? y = some i) (p : PostE s (O₀ ++ owns σ P) d fr v s') (ho : o = true → fr = true) :
    wpAny (model prog w) A (storeName env y v) (fun _ s'' => ∃ P' m' cm', Fr s₀ O₀ c env (σ.set i (mkSlot o d)) P' m' cm' s'' ∧ Tr env s (owns σ P) s'' (owns (σ.set i (mkSlot o d)) P') ∧ ∀ O, Tr env s' O s'' O) E s' := by
  obtain ⟨g, ⟨fp, r, of⟩, nw⟩ := p
  have plain : mkSlot o d = .frz d → wpAny (model prog w) A (storeName env y v) (fun _ s'' => ∃ P' m' cm', Fr s₀ O₀ c env (σ.set i (mkSlot o d)) P' m' cm' s'' ∧ Tr env s (owns σ P) s'' (owns (σ.set i (mkSlot o d)) P') ∧ ∀ O, Tr env s' O s'' O) E s' := by
    intro e
    rw [e]
    refine wpAny_mono (store_frz B.eo B.J (F.go g) hx r (off_sub of (sub_app owns_frz))) (fun _ s'' h => ?_) fun _ _ e => e
    obtain ⟨m', cm', F', T, T'⟩ := h
    exact ⟨P, m', cm', F', (Go.tr g).trans T, T'⟩
  cases o with
  | false => exact plain (by unfold mkSlot; rfl)
  | true =>
    cases d with
    | list l => exact wpAny_mono (store_own B.eo B.J F hx g (nw (ho rfl) l rfl)) (fun _ s'' h => h) fun _ _ e => e
    | _ => exact plain rfl

theorem swaps_no {e : Expr} {t : Option Expr} {k : Nat} (h : ∀ a b s p, e ≠ .ListComp a b s p) (h1 : ∀ a b s p, e ≠ .SetComp a b s p) (h2 : ∀ a b d s p, e ≠ .DictComp a b d s p) : swapsWith e t k env = pure false := by
  cases e <;> first | rfl | exact absurd rfl (h _ _ _ _) | exact absurd rfl (h1 _ _ _ _) | exact absurd rfl (h2 _ _ _ _ _)

/-- a comprehension whose value goes straight into a name -/
theorem use_comp {elt it : Expr} {y z : Str} {py pos pz : Pos} {ifs : List Expr} {inner : Scope} {i : Nat} {o : Bool} (hI : SI prog w h₀ lv fns Φ n) (hE : SE prog w h₀ lv fns Φ n) (hT : ST prog w h₀ lv fns Φ n)
    (B : Body h₀ lv fns n A c env s₀) (hk : c.k = σ.length) (F : Fr s₀ O₀ c env σ P m cm s) (hz : c.store? z = some i) (ho : o = true → fresh x = true)
    (h : (if compOk inner c.sc [y] && notSet it && inner.names.lookup y == some .local then
      (cI n c it).bind fun i => (cE n ⟨relab inner c.sc, (y, c.k) :: c.Γ, c.k + 1, c.fns⟩ elt).bind fun e =>
        match ifs with
        | [] => some (X.comp e i (.cbool true))
        | [t] => (cE n ⟨relab inner c.sc, (y, c.k) :: c.Γ, c.k + 1, c.fns⟩ t).map fun t => X.comp e i t
        | _ => none
    else none) = some x) (hv : ev Φ x (fzs σ) = some d) :
    wpAny (model prog w) A (evalThenUse (.ListComp elt [⟨.Name y py, it, ifs, 0⟩] inner pos) env (assign (.Name z pz) env)) (fun _ s' => ∃ P' m' cm', Fr s₀ O₀ c env (σ.set i (mkSlot o d)) P' m' cm' s' ∧ Tr env s (owns σ P) s' (owns (σ.set i (mkSlot o d)) P')) E s := by
  have H := hereF B hk F
  split at h
  · rename_i hok
    simp only [Bool.and_eq_true, beq_iff_eq] at hok
    obtain ⟨⟨h1, h2⟩, h3⟩ := hok
    simp only [Option.bind_eq_some_iff] at h
    obtain ⟨xi, c1, xe, c2, h⟩ := h
    have hin : ∀ (C : Addr) (O' : List Addr) (s' : Shared) (d : D), KP h₀ s'.heap → Live O' s'.heap → Vis (inCx c inner y) s'.heap (compEnvC inner (closL env.cells inner.names []) C env) O' (fzs σ ++ [some d]) →
        Here h₀ lv fns n A (inCx c inner y) (compEnvC inner (closL env.cells inner.names []) C env) s' O' (fzs σ ++ [some d]) := fun C O' s' d k l v =>
      ⟨H.rm, compEnv_ok H.eo h1 C, H.fs, by show c.k + 1 = _; rw [H.k, List.length_append]; rfl, k, v, l⟩
    have key : ∀ (cond : X), x = .comp xe xi cond → (∀ (C : Addr) (O' : List Addr) (E' : Value → Shared → Prop) (s' : Shared) (d cv : D) (b : Bool), KP h₀ s'.heap → Live O' s'.heap → Vis (inCx c inner y) s'.heap (compEnvC inner (closL env.cells inner.names []) C env) O' (fzs σ ++ [some d]) → ev Φ cond (fzs σ ++ [some d]) = some cv → truth cv = some b →
      wpAny (model prog w) A (forIn ifs true fun c r => if r = true then do let ok ← isTrue c (compEnvC inner (closL env.cells inner.names []) C env) (eval c (compEnvC inner (closL env.cells inner.names []) C env)); pure (ForInStep.yield ok) else pure (ForInStep.yield r)) (fun b' s'' => b' = b ∧ Go s' s'') E' s') →
      wpAny (model prog w) A (evalThenUse (.ListComp elt [⟨.Name y py, it, ifs, 0⟩] inner pos) env (assign (.Name z pz) env)) (fun _ s' => ∃ P' m' cm', Fr s₀ O₀ c env (σ.set i (mkSlot o d)) P' m' cm' s' ∧ Tr env s (owns σ P) s' (owns (σ.set i (mkSlot o d)) P')) E s := by
      intro cond hx hC
      subst hx
      simp only [ev, Option.bind_eq_some_iff, Option.map_eq_some_iff] at hv
      obtain ⟨ds, ⟨di, v1, hds⟩, out, hev, rfl⟩ := hv
      show wpAny (model prog w) A (do let _ ← comprehension (.ListComp elt [⟨.Name y py, it, ifs, 0⟩] inner pos) inner env _ (newList []) false (eval it env) (some (assign (.Name z pz) env))) _ _ s
      refine wpAny_bind (s_comp (use := some (assign (.Name z pz) env)) H.eo h1 h2 H.k h3 H.rm.h H.kp H.vis H.live hev (hI A E c env it xi s _ _ di ds H c1 v1 hds) hC
        (fun C O' E' s' d dv k l v hd => wpAny_mono (hE A E' _ _ elt xe s' O' _ dv (hin C O' s' d k l v) c2 hd) (fun _ _ q => q.weak fun z => nomatch z) fun _ _ e => e) fun acc C s' hp hC' hn => ?_)
      show wpAny (model prog w) A (assign (.Name z pz) env acc) _ _ s'
      refine wpAny_assign_Name (wpAny_mono (put_slot (o := o) B F hz hp fun _ => rfl) (fun _ s'' hF => ?_) fun _ _ e => e)
      obtain ⟨P', m', cm', F', T, T'⟩ := hF
      have hL : C ≠ env.locals := fun q => by
        obtain ⟨o', _, _, e, _⟩ := F.ic.toInCall.ns
        rw [q, e] at hC'; cases hC'
      have hcl : ∀ k, env.cells.lookup k ≠ some C := fun k q => by
        obtain ⟨o', e, _⟩ := F.ic.cell k C q
        rw [e] at hC'; cases hC'
      have hns : ∃ mC, s''.heap.Ns C mC := by
        obtain ⟨mC, oC, es, ep, e1, e2⟩ := hn
        exact ⟨mC, oC, es, ep, (T' []).keep C oC e1 hL hcl (fun q => nomatch q), e2⟩
      have h0 : s₀.heap.get? C = none := by
        cases e : s₀.heap.get? C with
        | none => rfl
        | some o => rw [F.gs.kp C o e] at hC'; cases hC'
      obtain ⟨mC, hnC⟩ := hns
      refine ⟨mC, hnC, fun h' hs' => wpAny_pure ⟨P', m', cm', F'.other ⟨mC, hnC⟩ hL hcl h0 (fun q => by obtain ⟨o, e⟩ := F.live C q; rw [hC'] at e; cases e) hs', fun b ob e h1 h2 h3 => ?_, T.new, fun b hb => ?_⟩⟩
      · exact hs'.extBut b ob (fun q => by rw [q, hC'] at e; cases e) (T.keep b ob e h1 h2 h3)
      · by_cases q : b = C
        · rw [q]; exact hC'
        · refine T.live b ?_
          rw [← hs'.2 b q]; exact hb
    split at h
    · cases h
      refine key _ rfl fun C O' E' s' d cv b k l v h4 h5 => ?_
      cases h4; cases h5
      exact wpAny_pure ⟨rfl, Go.refl _⟩
    · obtain ⟨xt, c3, rfl⟩ := Option.map_eq_some_iff.mp h
      refine key _ rfl fun C O' E' s' d cv b k l v h4 h5 => ?_
      exact wpAny_tests_one (hT A E' _ _ _ xt s' O' _ cv b (hin C O' s' d k l v) c3 h4 h5)
    · cases h
  · cases h
end
end Mine
namespace Mine
open PySem PySem.SeqAt PyProof.Rows PySem.Calls
section
variable {prog : Program} {w : World} {mg mb : Str → Option Value} {h₀ : Heap} {lv : Nat} {fns : List Str} {Φ : List (List D → Option D)} {ipv4 : Str → Bool} {W : Nat} {n : Nat} {A : Around} {E : Value → Shared → Prop} {c : Cx} {env : Env} {s s' s₀ : Shared} {O O₀ : List Addr} {σ σ' : List Slot} {P : Nat → Addr} {m cm : Str → Option Value} {fl : Fl} {x : X} {d : D}

theorem tE (T : Tied prog w mg mb h₀ lv fns Φ) (n : Nat) : SE prog w h₀ lv fns Φ n := (all_E T n).1
theorem tT (T : Tied prog w mg mb h₀ lv fns Φ) (n : Nat) : ST prog w h₀ lv fns Φ n := (all_E T n).2.1
theorem tI (T : Tied prog w mg mb h₀ lv fns Φ) (n : Nat) : SI prog w h₀ lv fns Φ n := (all_E T n).2.2.2.2.1

theorem comp_list {it elt : Expr} {y : Str} {inner : Scope} {ifs : List Expr} {τ : List (Option D)}
    (h : (if compOk inner c.sc [y] && notSet it && inner.names.lookup y == some .local then
      (cI n c it).bind fun i => (cE n ⟨relab inner c.sc, (y, c.k) :: c.Γ, c.k + 1, c.fns⟩ elt).bind fun e =>
        match ifs with
        | [] => some (X.comp e i (.cbool true))
        | [t] => (cE n ⟨relab inner c.sc, (y, c.k) :: c.Γ, c.k + 1, c.fns⟩ t).map fun t => X.comp e i t
        | _ => none
    else none) = some x) (hv : ev Φ x τ = some d) : scalar d = false := by
  have key : ∀ a b q, x = .comp a b q → scalar d = false := fun a b q e => by
    subst e
    simp only [ev, Option.bind_eq_some_iff, Option.map_eq_some_iff] at hv
    obtain ⟨_, _, _, _, rfl⟩ := hv
    rfl
  split at h
  · simp only [Option.bind_eq_some_iff] at h
    obtain ⟨xi, c1, xe, c2, h⟩ := h
    split at h
    · cases h; exact key _ _ _ rfl
    · obtain ⟨xt, c3, rfl⟩ := Option.map_eq_some_iff.mp h; exact key _ _ _ rfl
    · cases h
  · cases h

theorem st_assign {y : Str} {p pos : Pos} {e : Expr} {mu : List Nat} {S : S} (T : Tied prog w mg mb h₀ lv fns Φ) (B : Body h₀ lv fns n A c env s₀) (hk : c.k = σ.length) (F : Fr s₀ O₀ c env σ P m cm s)
    (h : (if oneGen e then (c.store? y).bind fun i => (cE n c e).map fun v => Mine.S.assign i ((vs v).filter mu.contains) (mu.contains i && fresh v) v else none) = some S) (hr : run Φ ipv4 W S σ = some (σ', fl)) :
    wpAny (model prog w) A (exec (.Assign [.Name y p] e pos) env) (Out s₀ O₀ c env c.k s (owns σ P) σ' fl) E s := by
  obtain ⟨h1g, h⟩ := itb h
  simp only [Option.bind_eq_some_iff, Option.map_eq_some_iff] at h
  obtain ⟨i, hi, x, c1, rfl⟩ := h
  simp only [run, Option.map_eq_some_iff] at hr
  obtain ⟨⟨d, σ₁⟩, hb, hr⟩ := hr
  cases hr
  obtain ⟨F₁, hs, hl, hval⟩ := evB_frame F hb
  have ho : (mu.contains i && fresh x) = true → fresh x = true := fun q => by simp only [Bool.and_eq_true] at q; exact q.2
  have fin : ∀ s', (∃ P' m' cm', Fr s₀ O₀ c env (σ₁.set i (mkSlot (mu.contains i && fresh x) d)) P' m' cm' s' ∧ Tr env s (owns σ₁ P) s' (owns (σ₁.set i (mkSlot (mu.contains i && fresh x) d)) P')) →
      Out s₀ O₀ c env c.k s (owns σ P) (σ₁.set i (mkSlot (mu.contains i && fresh x) d)) .nxt .next s' := fun s' ⟨P', m', cm', F', T⟩ =>
    ⟨P', m', cm', F', ⟨fun b o e h1 h2 h3 => T.keep b o e h1 h2 fun q => h3 (hs b q), fun b hb => (T.new b hb).imp (hs b) id, T.live⟩, by rw [List.length_set, hl, hk], rfl⟩
  have plain : swapsWith e (some (.Name y p)) pos.line env = pure false → wpAny (model prog w) A (exec (.Assign [.Name y p] e pos) env) (Out s₀ O₀ c env c.k s (owns σ P) (σ₁.set i (mkSlot (mu.contains i && fresh x) d)) .nxt) E s := fun hsw => by
    refine wpAny_Assign_Name (wpAny_mono (evB_val (tE T n) B hk F F₁ hl c1 hval) (fun v s₁ h₁ => ?_) fun _ _ e => e) hsw
    refine wpAny_mono (put_slot B F₁ hi h₁ ho) (fun _ s₂ h₂ => fin s₂ ?_) fun _ _ e => e
    obtain ⟨P', m', cm', F', T, _⟩ := h₂
    exact ⟨P', m', cm', F', T⟩
  by_cases hlc : ∃ a b q r, e = .ListComp a b q r
  · obtain ⟨elt, gens, inner, pc, rfl⟩ := hlc
    have hsw : swapsWith (.ListComp elt gens inner pc) (some (.Name y p)) pos.line env = pure (env.blockKind == .function && env.kindOf y == some .local && p.line == pc.line && !(inner.names.any fun (n, k) => n == y && (k == .local || k == .cell))) := rfl
    cases hb : (env.blockKind == .function && env.kindOf y == some .local && p.line == pc.line && !(inner.names.any fun (n, k) => n == y && (k == .local || k == .cell))) with
    | false => exact plain (hsw.trans (by rw [hb]))
    | true =>
      rw [hb] at hsw
      rw [exec_Assign_Name_used _ _ _ _ hsw]
      refine wpAny_bind (wpAny_standAt (wpAny_bind ?_))
      cases n with
      | zero => exact no c1
      | succ n =>
        cases gens with
        | nil => exact no c1
        | cons g gens => cases gens with
          | cons _ _ => exact noB h1g
          | nil => cases g with
            | mk tg it ifs as => cases tg with
              | Name _ _ =>
                obtain ⟨rfl, c1⟩ := itb c1
                have hv : ev Φ x (fzs σ₁) = some d := by
                  rcases hval with h | ⟨h1, h2, _⟩
                  · exact h
                  · rw [comp_list c1 h2] at h1; cases h1
                exact wpAny_mono (use_comp (tI T n) (tE T n) (tT T n) B.down (hk.trans hl.symm) F₁ hi ho c1 hv) (fun _ s' h => wpAny_pure (fin s' h)) fun _ _ e => e
              | _ => exact no c1
  · refine plain (swaps_no (fun a b q r e => hlc ⟨a, b, q, r, e⟩) (fun a b q r e => ?_) fun a b q r t e => ?_)
    · subst e; cases n <;> exact no c1
    · subst e; cases n <;> exact no c1

theorem ld {y : Str} {i : Nat} {v : Value} {Q : Value → Shared → Prop} (EO : EnvOk c env) (hy : c.own? y = some i) (hv : VarAt s.heap env y v) (hq : Q v s) : wpAny (model prog w) A (loadName env y) Q E s := by
  obtain ⟨k1, k2, _, _, _⟩ := own_kind hy
  have hk : env.scope.kind = .function := by rw [EO.sc]; exact EO.fn
  rcases hv with ⟨a, m, b, e⟩ | ⟨a | a, q, b, e⟩
  · exact wpAny_loadName_local hk a b e hq
  · exact wpAny_loadName_cell hk a b e hq
  · exact wpAny_loadName_free hk a b e hq k2

theorem s_aug {op : Operator} {o : BOp} {va vb : Value} {a b : D} {f1 f2 : List Addr} (ho : bop? op = some o) (h : augv o a b = some d) (r1 : Rd s.heap va a f1) (r2 : Rd s.heap vb b f2) :
    wpAny (model prog w) A (inplaceOp op va vb) (fun v s' => Go s s' ∧ Rd s'.heap v d [] ∧ scalar d = true) E s := by
  rw [bop_is ho]
  cases o with
  | add =>
    cases a with
    | int i =>
      obtain ⟨j, hj, h⟩ := bnd h
      cases int?_is hj; cases Option.some.inj h
      obtain ⟨t, rfl⟩ := r1.int_is
      obtain ⟨u, rfl⟩ := r2.int_is
      exact P.iadd_int ⟨Go.tok _ _, .int _ _, rfl⟩
    | str i =>
      obtain ⟨j, hj, h⟩ := bnd h
      cases str?_is hj
      obtain ⟨hz, rfl⟩ := itd h
      obtain ⟨t, rfl, _⟩ := r1.str_is
      obtain ⟨u, rfl, _⟩ := r2.str_is
      exact PySem.SB.iadd (fun t' k => ⟨Go.tok _ _, .str _ _ (by rw [strLen_append]; exact hz), rfl⟩) (by rw [sizeL]; exact hz)
    | _ => exact no h
  | sub =>
    obtain ⟨i, hi, h⟩ := bnd h
    obtain ⟨j, hj, h⟩ := bnd h
    cases int?_is hi; cases int?_is hj; cases Option.some.inj h
    obtain ⟨t, rfl⟩ := r1.int_is
    obtain ⟨u, rfl⟩ := r2.int_is
    exact P.isub_int ⟨Go.tok _ _, .int _ _, rfl⟩
  | mul =>
    obtain ⟨i, hi, h⟩ := bnd h
    obtain ⟨j, hj, h⟩ := bnd h
    cases int?_is hi; cases int?_is hj
    obtain ⟨hz, rfl⟩ := itd h
    obtain ⟨t, rfl⟩ := r1.int_is
    obtain ⟨u, rfl⟩ := r2.int_is
    exact P.imul_int ⟨Go.tok _ _, .int _ _, rfl⟩ (mul_ok hz)
  | _ => exact no h

theorem Out.of {P' : Nat → Addr} {m' cm' : Str → Option Value} {f : Flow} (F : Fr s₀ O₀ c env σ' P' m' cm' s') (T : Tr env s O s' (owns σ' P')) (hl : σ'.length = c.k) (h : FlOk O₀ fl f s') : Out s₀ O₀ c env c.k s O σ' fl f s' := ⟨P', m', cm', F, T, hl, h⟩

theorem st_aug {y : Str} {p pos : Pos} {e : Expr} {op : Operator} {o : BOp} {i : Nat} (T : Tied prog w mg mb h₀ lv fns Φ) (B : Body h₀ lv fns n A c env s₀) (hk : c.k = σ.length) (F : Fr s₀ O₀ c env σ P m cm s)
    (hi : c.store? y = some i) (hy : c.own? y = some i) (ho : bop? op = some o) (c1 : cE n c e = some x) (hr : run Φ ipv4 W (.aug i o x) σ = some (σ', fl)) :
    wpAny (model prog w) A (exec (.AugAssign (.Name y p) op e pos) env) (Out s₀ O₀ c env c.k s (owns σ P) σ' fl) E s := by
  simp only [run, Option.bind_eq_some_iff, Option.map_eq_some_iff] at hr
  obtain ⟨old, ⟨oo, h1, h1'⟩, v, h2, d, h3, hr⟩ := hr
  cases hr
  have H := hereA B hk F
  obtain ⟨va, fa, hva, ra, oa⟩ := H.vis y i old hy (Option.bind_eq_some_iff.mpr ⟨oo, h1, h1'⟩)
  refine wpAny_AugAssign_Name (ld B.eo hy hva ?_)
  refine wpAny_mono (tE T n A E c env e x s _ _ v H c1 h2) (fun vb s₁ h₁ => ?_) fun _ _ e => e
  obtain ⟨g1, ⟨fb, rb, ob⟩, _⟩ := h₁
  refine wpAny_mono (s_aug ho h3 (ra.kp g1.kp) rb) (fun r s₂ h₂ => ?_) fun _ _ e => e
  obtain ⟨g2, rr, _⟩ := h₂
  refine wpAny_mono (store_frz B.eo B.J (F.go (g1.trans g2)) hi rr off_nil) (fun _ s₃ h₃ => ?_) fun _ _ e => e
  obtain ⟨m', cm', F', T', _⟩ := h₃
  exact .of F' ((Go.tr (g1.trans g2)).trans T') (by rw [List.length_set, hk]) rfl

theorem st_ite {t : Expr} {a b : List Stmt} {pos : Pos} {xt : X} {Sa Sb : Mine.S} {mu : List Nat} (T : Tied prog w mg mb h₀ lv fns Φ) (hB : SB prog w h₀ lv fns Φ ipv4 W n) (B : Body h₀ lv fns n A c env s₀) (hk : c.k = σ.length) (F : Fr s₀ O₀ c env σ P m cm s)
    (ca : cSs n c mu a = some Sa) (cb : cSs n c mu b = some Sb) (c1 : cE n c t = some xt) (hr : run Φ ipv4 W (.ite xt Sa Sb) σ = some (σ', fl)) :
    wpAny (model prog w) A (exec (.If t a b pos) env) (Out s₀ O₀ c env c.k s (owns σ P) σ' fl) E s := by
  simp only [run, Option.bind_eq_some_iff] at hr
  obtain ⟨bv, ⟨dv, h1, h2⟩, hr⟩ := hr
  refine wpAny_If (wpAny_mono (tT T n A E c env t xt s _ _ dv bv (hereA B hk F) c1 h1 h2) (fun b' s₁ h₁ => ?_) fun _ _ e => e)
  obtain ⟨rfl, g⟩ := h₁
  have lift : ∀ f s', Out s₀ O₀ c env c.k s₁ (owns σ P) σ' fl f s' → Out s₀ O₀ c env c.k s (owns σ P) σ' fl f s' := fun f s' ⟨P', m', cm', F', T', hl, hf⟩ => ⟨P', m', cm', F', (Go.tr g).trans T', hl, hf⟩
  cases b' with
  | true =>
    rw [if_pos rfl] at hr ⊢
    exact wpAny_mono (hB A E c env mu a Sa s₀ s₁ O₀ σ σ' P m cm fl B hk (F.go g) ca hr) lift fun _ _ e => e
  | false =>
    rw [if_neg Bool.false_ne_true] at hr ⊢
    exact wpAny_mono (hB A E c env mu b Sb s₀ s₁ O₀ σ σ' P m cm fl B hk (F.go g) cb hr) lift fun _ _ e => e
theorem st_search {t e : Expr} {a b : List Stmt} {pos : Pos} {xt : X} {Sa Sb : Mine.S} {mu : List Nat} (hR : SR prog w h₀ lv fns Φ ipv4 n) (hB : SB prog w h₀ lv fns Φ ipv4 W n) (B : Body h₀ lv fns n A c env s₀) (hk : c.k = σ.length) (F : Fr s₀ O₀ c env σ P m cm s)
    (ca : cSs n c mu a = some Sa) (cb : cSs n c mu b = some Sb) (hs : search? c t = some e) (c1 : cE n c e = some xt) (hr : run Φ ipv4 W (.ifSearch xt Sa Sb) σ = some (σ', fl)) :
    wpAny (model prog w) A (exec (.If t a b pos) env) (Out s₀ O₀ c env c.k s (owns σ P) σ' fl) E s := by
  simp only [run, Option.bind_eq_some_iff] at hr
  obtain ⟨dv, h1, hr⟩ := hr
  cases dv with
  | str y =>
    dsimp only at hr
    refine wpAny_If (wpAny_mono (hR A E c env t e xt s _ _ y (hereA B hk F) hs c1 h1) (fun b' s₁ h₁ => ?_) fun _ _ e => e)
    obtain ⟨rfl, g⟩ := h₁
    have lift : ∀ f s', Out s₀ O₀ c env c.k s₁ (owns σ P) σ' fl f s' → Out s₀ O₀ c env c.k s (owns σ P) σ' fl f s' := fun f s' ⟨P', m', cm', F', T', hl, hf⟩ => ⟨P', m', cm', F', (Go.tr g).trans T', hl, hf⟩
    cases hy : ipv4 y with
    | true =>
      rw [hy, if_pos rfl] at hr
      rw [if_pos rfl]
      exact wpAny_mono (hB A E c env mu a Sa s₀ s₁ O₀ σ σ' P m cm fl B hk (F.go g) ca hr) lift fun _ _ e => e
    | false =>
      rw [hy, if_neg Bool.false_ne_true] at hr
      rw [if_neg Bool.false_ne_true]
      exact wpAny_mono (hB A E c env mu b Sb s₀ s₁ O₀ σ σ' P m cm fl B hk (F.go g) cb hr) lift fun _ _ e => e
  | _ => cases hr
theorem st_ret {e : Expr} {pos : Pos} (T : Tied prog w mg mb h₀ lv fns Φ) (B : Body h₀ lv fns n A c env s₀) (hk : c.k = σ.length) (F : Fr s₀ O₀ c env σ P m cm s)
    (c1 : cE n c e = some x) (hr : run Φ ipv4 W (.ret x) σ = some (σ', fl)) : wpAny (model prog w) A (exec (.Return (some e) pos) env) (Out s₀ O₀ c env c.k s (owns σ P) σ' fl) E s := by
  simp only [run, Option.map_eq_some_iff] at hr
  obtain ⟨d, h1, hr⟩ := hr
  cases hr
  refine wpAny_Return_some (wpAny_mono (tE T n A E c env e x s _ _ d (hereA B hk F) c1 h1) (fun v s₁ h₁ => ?_) fun _ _ e => e)
  obtain ⟨g, ⟨fp, r, o⟩, _⟩ := h₁
  exact .of (F.go g) (Go.tr g) hk.symm ⟨v, fp, rfl, r, o⟩

theorem step_B (hS : SS prog w h₀ lv fns Φ ipv4 W n) (hB : SB prog w h₀ lv fns Φ ipv4 W n) : SB prog w h₀ lv fns Φ ipv4 W (n + 1) := by
  intro A E c env mu st S s₀ s O₀ σ σ' P m cm fl B hk F h hr
  cases st with
  | nil =>
    simp only [cSs, Option.some.injEq] at h
    subst h
    cases hr
    exact wpAny_pure (.of F .refl hk.symm rfl)
  | cons st r =>
    simp only [cSs, Option.bind_eq_some_iff, Option.map_eq_some_iff] at h
    obtain ⟨Sa, ca, Sb, cb, rfl⟩ := h
    simp only [run, Option.bind_eq_some_iff] at hr
    obtain ⟨⟨σ₁, f₁⟩, h1, hr⟩ := hr
    rw [arm_execs_cons]
    refine wpAny_bind (wpAny_mono (hS A E c env mu st Sa s₀ s O₀ σ σ₁ P m cm f₁ B.down hk F ca h1) (fun f s₁ h₁ => ?_) fun _ _ e => e)
    obtain ⟨P₁, m₁, cm₁, F₁, T₁, hl, hf⟩ := h₁
    cases f₁ with
    | nxt =>
      cases hf
      refine wpAny_mono (hB A E c env mu r Sb s₀ s₁ O₀ σ₁ σ' P₁ m₁ cm₁ fl B.down hl.symm F₁ cb hr) (fun f s₂ h₂ => ?_) fun _ _ e => e
      obtain ⟨P₂, m₂, cm₂, F₂, T₂, hl₂, hf₂⟩ := h₂
      exact ⟨P₂, m₂, cm₂, F₂, T₁.trans T₂, hl₂, hf₂⟩
    | brk => cases hf; cases hr; exact wpAny_pure ⟨P₁, m₁, cm₁, F₁, T₁, hl, rfl⟩
    | cnt => cases hf; cases hr; exact wpAny_pure ⟨P₁, m₁, cm₁, F₁, T₁, hl, rfl⟩
    | ret d =>
      obtain ⟨v, fp, rfl, r, o⟩ := hf
      cases hr
      exact wpAny_pure ⟨P₁, m₁, cm₁, F₁, T₁, hl, v, fp, rfl, r, o⟩
end
end Mine
namespace Mine
open PySem PySem.SeqAt PyProof.Rows PySem.Calls

/-- as Tr, with an iterator aside -/
structure TrI (env : Env) (I : Addr) (s : Shared) (O : List Addr) (s' : Shared) (O' : List Addr) : Prop where
  keep : ∀ b o, s.heap.get? b = some o → b ≠ env.locals → (∀ n, env.cells.lookup n ≠ some b) → b ∉ O → b ≠ I → s'.heap.get? b = some o
  new : ∀ b ∈ O', b ∈ O ∨ s.heap.get? b = none
  live : ∀ b, s'.heap.get? b = none → s.heap.get? b = none

section
variable {prog : Program} {w : World} {mg mb : Str → Option Value} {h₀ : Heap} {lv : Nat} {fns : List Str} {Φ : List (List D → Option D)} {ipv4 : Str → Bool} {W : Nat} {n : Nat} {A : Around} {E : Value → Shared → Prop} {c : Cx} {env : Env} {s s' s'' s₀ : Shared} {O O' O'' O₀ : List Addr} {σ σ' : List Slot} {P : Nat → Addr} {m cm : Str → Option Value} {fl : Fl} {x : X} {d : D} {I : Addr}

theorem TrI.refl : TrI env I s O s O := ⟨fun _ _ e _ _ _ _ => e, fun _ h => .inl h, fun _ h => h⟩
theorem TrI.trans (x : TrI env I s O s' O') (y : TrI env I s' O' s'' O'') : TrI env I s O s'' O'' := by
  refine ⟨fun b o e h1 h2 h3 h5 => y.keep b o (x.keep b o e h1 h2 h3 h5) h1 h2 (fun h4 => ?_) h5, fun b hb => ?_, fun b hb => x.live b (y.live b hb)⟩
  · rcases x.new b h4 with h | h
    · exact h3 h
    · rw [e] at h; cases h
  · rcases y.new b hb with h | h
    · exact x.new b h
    · exact .inr (x.live b h)
theorem Tr.toI (x : Tr env s O s' O') : TrI env I s O s' O' := ⟨fun b o e h1 h2 h3 _ => x.keep b o e h1 h2 h3, x.new, x.live⟩
theorem TrI.toTr (x : TrI env I s O s' O') (hI : s.heap.get? I = none) : Tr env s O s' O' := ⟨fun b o e h1 h2 h3 => x.keep b o e h1 h2 h3 (fun q => by rw [q, hI] at e; cases e), x.new, x.live⟩

/-- an iterator beside the frame -/
theorem Fr.withI {oI : Obj} (F : Fr s₀ O₀ c env σ P m cm s) (hI : s.heap.get? I = some oI) (hn : ∀ vs n, oI.data ≠ .seq vs n) : Fr s₀ (I :: O₀) c env σ P m cm s := by
  have off : ∀ {fp : List Addr}, (∀ b ∈ fp, ∃ o vs n, s.heap.get? b = some o ∧ o.data = .seq vs n) → Off fp (O₀ ++ owns σ P) → Off fp (I :: O₀ ++ owns σ P) := fun sq o b hb hm => by
    rcases List.mem_cons.mp hm with rfl | hm
    · obtain ⟨o', vs, n, e1, e2⟩ := sq b hb
      rw [hI] at e1; cases e1
      exact hn vs n e2
    · exact o b hb hm
  refine ⟨F.ic, fun x i sl h1 h2 => ?_, fun i l h => ?_, F.inj, fun b hb => ?_⟩
  · have := F.val x i sl h1 h2
    cases sl with
    | unset => trivial
    | frz d => obtain ⟨w, fp, e, r, o⟩ := this; exact ⟨w, fp, e, r, off r.seqs o⟩
    | own l => exact this
  · obtain ⟨vs, k, fp, z, h2, h3, h4, h5, h6⟩ := F.lst i l h
    refine ⟨vs, k, fp, z, h2, h3, off h3.seqs h4, h5, fun q => ?_⟩
    rcases List.mem_cons.mp q with q | q
    · rw [← q] at hI
      rw [show s.heap.get? (P i) = _ from h2] at hI; cases hI
      exact hn vs k rfl
    · exact h6 q
  · rcases List.mem_cons.mp hb with rfl | hb
    · exact ⟨_, hI⟩
    · exact F.live b hb
theorem Fr.noI (F : Fr s₀ (I :: O₀) c env σ P m cm s) : Fr s₀ O₀ c env σ P m cm s := by
  have hs : ∀ b ∈ O₀ ++ owns σ P, b ∈ I :: O₀ ++ owns σ P := fun b hb => List.mem_cons_of_mem _ hb
  refine ⟨F.ic, fun x i sl h1 h2 => ?_, fun i l h => ?_, F.inj, fun b hb => F.live b (List.mem_cons_of_mem _ hb)⟩
  · have := F.val x i sl h1 h2
    cases sl with
    | unset => trivial
    | frz d => obtain ⟨w, fp, e, r, o⟩ := this; exact ⟨w, fp, e, r, off_sub o hs⟩
    | own l => exact this
  · obtain ⟨vs, k, fp, z, h2, h3, h4, h5, h6⟩ := F.lst i l h
    exact ⟨vs, k, fp, z, h2, h3, off_sub h4 hs, h5, fun q => h6 (List.mem_cons_of_mem _ q)⟩
/-- the iterator goes on by one -/
theorem Fr.next {h' : Heap} {tk : Nat} (F : Fr s₀ (I :: O₀) c env σ P m cm s) (hL : I ≠ env.locals) (hc : ∀ k, env.cells.lookup k ≠ some I) (h0 : s₀.heap.get? I = none) (k : ∀ b o, b ∉ [I] → s.heap.get? b = some o → h'.get? b = some o) (hI : ∃ o, h'.get? I = some o) :
    Fr s₀ (I :: O₀) c env σ P m cm { s with heap := h', toks := tk } ∧ TrI env I s (owns σ P) { s with heap := h', toks := tk } (owns σ P) := by
  have hic := F.ic
  have k' : ∀ b o, b ≠ I → s.heap.get? b = some o → h'.get? b = some o := fun b o q e => k b o (by simpa using q) e
  refine ⟨⟨⟨⟨?_, ?_, fun b o e => ?_, hic.toInCall.fresh⟩, fun n a ha => ?_, hic.apart, hic.above⟩, fun x i sl h1 h2 => ?_, fun i l h => ?_, F.inj, fun b hb => ?_⟩, fun b o e _ _ _ q => k' b o q e, fun _ q => .inl q, fun b hb => ?_⟩
  · obtain ⟨hh, t, rfl⟩ := hic.toInCall.same
    exact ⟨_, _, rfl⟩
  · obtain ⟨o', es, ep, q1, q2⟩ := hic.toInCall.ns
    exact ⟨o', es, ep, k' _ _ (Ne.symm hL) q1, q2⟩
  · exact k' b o (fun q => by rw [q, h0] at e; cases e) (hic.toInCall.keep b o e)
  · obtain ⟨o', q1, q2⟩ := hic.cell n a ha
    exact ⟨o', k' _ _ (fun q => hc n (q ▸ ha)) q1, q2⟩
  · have := F.val x i sl h1 h2
    cases sl with
    | unset => trivial
    | frz d => obtain ⟨w, fp, e, r, o⟩ := this; exact ⟨w, fp, e, r.at fun b hb ob e => k' b ob (fun q => o b hb (by rw [q]; exact List.mem_cons_self ..)) e, o⟩
    | own l => exact this
  · obtain ⟨vs, n, fp, z, h2, h3, h4, h5, h6⟩ := F.lst i l h
    exact ⟨vs, n, fp, z, k' _ _ (fun q => h6 (by rw [q]; exact List.mem_cons_self ..)) h2, h3.at fun b hb ob e => k' b ob (fun q => h4 b hb (by rw [q]; exact List.mem_cons_self ..)) e, h4, h5, h6⟩
  · by_cases q : b = I
    · rw [q]; exact hI
    · obtain ⟨o, e⟩ := F.live b hb
      exact ⟨o, k' b o q e⟩
  · by_cases q : b = I
    · obtain ⟨o, e⟩ := hI
      change h'.get? b = none at hb
      rw [q, e] at hb; cases hb
    · cases e : s.heap.get? b with
      | none => rfl
      | some o =>
        change h'.get? b = none at hb
        rw [k' b o q e] at hb; cases hb

/-- .. and comes to its end -/
theorem Fr.last {h' : Heap} {tk : Nat} (F : Fr s₀ (I :: O₀) c env σ P m cm s) (hL : I ≠ env.locals) (hc : ∀ k, env.cells.lookup k ≠ some I) (h0 : s₀.heap.get? I = none) (hO : I ∉ O₀) (k : ∀ b o, b ∉ [I] → s.heap.get? b = some o → h'.get? b = some o) :
    Fr s₀ O₀ c env σ P m cm { s with heap := h', toks := tk } := by
  have hic := F.ic
  have k' : ∀ b o, b ≠ I → s.heap.get? b = some o → h'.get? b = some o := fun b o q e => k b o (by simpa using q) e
  have F' := F.noI
  refine ⟨⟨⟨?_, ?_, fun b o e => ?_, hic.toInCall.fresh⟩, fun n a ha => ?_, hic.apart, hic.above⟩, fun x i sl h1 h2 => ?_, fun i l h => ?_, F.inj, fun b hb => ?_⟩
  · obtain ⟨hh, t, rfl⟩ := hic.toInCall.same
    exact ⟨_, _, rfl⟩
  · obtain ⟨o', es, ep, q1, q2⟩ := hic.toInCall.ns
    exact ⟨o', es, ep, k' _ _ (Ne.symm hL) q1, q2⟩
  · exact k' b o (fun q => by rw [q, h0] at e; cases e) (hic.toInCall.keep b o e)
  · obtain ⟨o', q1, q2⟩ := hic.cell n a ha
    exact ⟨o', k' _ _ (fun q => hc n (q ▸ ha)) q1, q2⟩
  · have := F.val x i sl h1 h2
    cases sl with
    | unset => trivial
    | frz d =>
      obtain ⟨w, fp, e, r, o⟩ := this
      exact ⟨w, fp, e, r.at fun b hb ob e => k' b ob (fun q => o b hb (by rw [q]; exact List.mem_cons_self ..)) e, off_sub o fun b hb => List.mem_cons_of_mem _ hb⟩
    | own l => exact this
  · obtain ⟨vs, n, fp, z, h2, h3, h4, h5, h6⟩ := F.lst i l h
    exact ⟨vs, n, fp, z, k' _ _ (fun q => h6 (by rw [q]; exact List.mem_cons_self ..)) h2, h3.at fun b hb ob e => k' b ob (fun q => h4 b hb (by rw [q]; exact List.mem_cons_self ..)) e, off_sub h4 fun b hb => List.mem_cons_of_mem _ hb, h5, fun q => h6 (List.mem_cons_of_mem _ q)⟩
  · obtain ⟨o, e⟩ := F.live b (List.mem_cons_of_mem _ hb)
    exact ⟨o, k' b o (fun q => hO (q ▸ hb)) e⟩

noncomputable def LoopOut (s₀ : Shared) (O₀ : List Addr) (c : Cx) (env : Env) (s : Shared) (O : List Addr) (σ' : List Slot) (fl : Fl) (r : Result) (s' : Shared) : Prop := ∃ f, r = .ok f ∧ Out s₀ O₀ c env c.k s O σ' fl f s'

inductive FInv (s₀ s₂ : Shared) (O₀ : List Addr) (c : Cx) (env : Env) (St : Nat → Heap → Prop) (I : Addr) (Ow : List Addr) (g : List D → List Slot → Option (List Slot × Fl)) (ds : List D) (r : List Slot × Fl) (k : Nat) (sx : Shared) : Prop
  | mk (j : Nat) (σj : List Slot) (Pj : Nat → Addr) (mj cmj : Str → Option Value) (hjk : j + k = ds.length) (Fj : Fr s₀ (I :: O₀) c env σj Pj mj cmj sx) (hkj : c.k = σj.length) (hst : St j sx.heap) (Tj : TrI env I s₂ Ow sx (owns σj Pj))
    (hrj : g (ds.drop j) σj = some r) : FInv s₀ s₂ O₀ c env St I Ow g ds r k sx
/-- a for loop over what an iterator gives; the target is given by how it stores -/
theorem for_loop {target : Expr} {body : List Stmt} {it : Value} {ds : List D} {s₂ : Shared} {put : D → List Slot → Option (List Slot)} {bd : Mine.S} {mu : List Nat} (hB : SB prog w h₀ lv fns Φ ipv4 W n) (B : Body h₀ lv fns n A c env s₀) (hk : c.k = σ.length)
    (F : Fr s₀ O₀ c env σ P m cm s) (cb : cSs n c mu body = some bd) (hit : Iter prog w s (O₀ ++ owns σ P) ds it s₂) (ht : ∀ (I : Addr) (v : Value) (sx : Shared) (o : Obj) (n : String) (Q : Unit → Shared → Prop) (E : Value → Shared → Prop), sx.heap.get? I = some o → o.cls = .type n → owners.contains n = false → Q () sx → wpAny (model prog w) A (letOwnedTupleGo target (.ref I) v) Q E sx)
    (hput : ∀ (E : Value → Shared → Prop) (O₁ : List Addr) (σ σ₁ : List Slot) (P : Nat → Addr) (m cm : Str → Option Value) (s : Shared) (v : Value) (d : D) (fq : List Addr), Fr s₀ O₁ c env σ P m cm s → c.k = σ.length → Rd s.heap v d fq → Off fq (O₁ ++ owns σ P) → put d σ = some σ₁ →
      wpAny (model prog w) A (assign target env v) (fun _ s' => ∃ P' m' cm', Fr s₀ O₁ c env σ₁ P' m' cm' s' ∧ σ₁.length = σ.length ∧ Tr env s (owns σ P) s' (owns σ₁ P')) E s)
    (hr : forL (fun d σ => (put d σ).bind (run Φ ipv4 W bd)) ds σ = some (σ', fl)) :
    codeAny (model prog w) A (.forLoop target it body [] env) (LoopOut s₀ O₀ c env s (owns σ P) σ' fl) s₂ := by
  obtain ⟨hds, g2, I, fp, Pi, St, rfl, Wk, hlive, hst, hIs, _, ⟨oI, hI2, hIn⟩, hfp, hitem⟩ := hit
  have F2 := F.go g2
  have hL : I ≠ env.locals := fun q => by
    obtain ⟨o', _, _, e, _⟩ := F.ic.toInCall.ns
    rw [← q, hIs] at e; cases e
  have hcl : ∀ k, env.cells.lookup k ≠ some I := fun k q => by
    obtain ⟨o', e, _⟩ := F.ic.cell k I q
    rw [hIs] at e; cases e
  have h0 : s₀.heap.get? I = none := by
    cases e : s₀.heap.get? I with
    | none => rfl
    | some o => rw [F.gs.kp I o e] at hIs; cases hIs
  have WA := Wk A B.rm.h
  -- seqs of s₂ are none of the frame's own places
  have apart : ∀ b o vs k, s₂.heap.get? b = some o → o.data = .seq vs k → b ≠ env.locals ∧ ∀ n, env.cells.lookup n ≠ some b := fun b o vs k e1 e2 =>
    ⟨ns_ne_seq F2.ic.toInCall.ns e1 e2, fun n q => cell_ne_seq (F2.ic.cell n b q) e1 e2 rfl⟩
  refine codeAny_forLoop_any (FInv s₀ s₂ O₀ c env St I (owns σ P) (forL fun d σ => (put d σ).bind (run Φ ipv4 W bd)) ds (σ', fl)) (fun k sx hx => ?_) ds.length ⟨0, σ, P, m, cm, by omega, F2.withI hI2 hIn, hk, hst, .refl, by simpa using hr⟩
  obtain ⟨j, σj, Pj, mj, cmj, hjk, Fj, hkj, hstj, Tj, hrj⟩ := hx
  have done : ∀ {sx : Shared} {σj : List Slot} {Pj : Nat → Addr} {mj cmj : Str → Option Value} {fl : Fl} {f : Flow}, Fr s₀ (I :: O₀) c env σj Pj mj cmj sx → c.k = σj.length → TrI env I s₂ (owns σ P) sx (owns σj Pj) → FlOk O₀ fl f sx →
      Out s₀ O₀ c env c.k s (owns σ P) σj fl f sx := fun F' hk' T' hf => ⟨_, _, _, F'.noI, ((Go.tr g2).toI.trans T').toTr hIs, hk'.symm, hf⟩
  by_cases hj : j < ds.length
  · refine WA.item j sx _ _ hj hstj fun v h' tk hP hst' hk' => ?_
    obtain ⟨og, gg1, ng, gg2, gg3⟩ := hlive _ _ hst'
    refine ht I v _ og ng _ _ gg1 gg2 gg3 ?_
    obtain ⟨Fn, Tn⟩ := Fj.next (tk := tk) hL hcl h0 hk' ⟨og, gg1⟩
    obtain ⟨d, fq, hd, rd, od, hIq⟩ := hitem j v hj hP
    have hdrop : ds.drop j = d :: ds.drop (j + 1) := by
      rw [List.drop_eq_getElem_cons hj]
      congr 1
      rw [List.getElem?_eq_getElem hj] at hd
      exact Option.some.inj hd
    rw [hdrop] at hrj
    obtain ⟨⟨σb, fb⟩, hrj, hrest⟩ := bnd hrj
    obtain ⟨σ₁, hp, hrun⟩ := bnd hrj
    have T2 := Tj.trans Tn
    have rd' : Rd h' v d fq := rd.at fun b hb o e => by
      obtain ⟨o', vs, k, e1, e2⟩ := rd.seqs b hb
      obtain ⟨q1, q2⟩ := apart b o' vs k e1 e2
      exact T2.keep b o e q1 q2 (fun q => od b hb (List.mem_append_right _ q)) fun q => hIq (q ▸ hb)
    have od' : Off fq (I :: O₀ ++ owns σj Pj) := fun b hb hm => by
      rcases List.mem_cons.mp hm with rfl | hm
      · exact hIq hb
      · rcases List.mem_append.mp hm with q | q
        · exact od b hb (List.mem_append_left _ q)
        · rcases T2.new b q with q | q
          · exact od b hb (List.mem_append_right _ q)
          · obtain ⟨o, e⟩ := rd.live b hb
            rw [q] at e; cases e
    refine wpAny_mono (hput _ (I :: O₀) σj σ₁ Pj mj cmj _ v d fq Fn hkj rd' od' hp) (fun _ sa ha => ?_) fun _ _ e => e
    obtain ⟨Pa, ma, cma, Fa, hla, Ta⟩ := ha
    refine wpAny_mono (hB A _ c env mu body bd s₀ sa (I :: O₀) σ₁ σb Pa ma cma fb B (hkj.trans hla.symm) Fa cb hrun) (fun f sb hb => ?_) fun _ _ e => e
    obtain ⟨Pb, mb', cmb, Fb, Tb, hlb, hfb⟩ := hb
    have T3 := (T2.trans Ta.toI).trans Tb.toI
    have hstb : St (j + 1) sb.heap := by
      refine WA.frame _ _ _ hst' fun b hb o e => ?_
      have hown : ∀ {σx : List Slot} {Px : Nat → Addr} {mx cmx : Str → Option Value} {sx : Shared}, Fr s₀ (I :: O₀) c env σx Px mx cmx sx → I ∉ owns σx Px := fun Fx q => by
        obtain ⟨i, l, q1, q2⟩ := mem_owns.mp q
        obtain ⟨_, _, _, _, _, _, _, _, q6⟩ := Fx.lst i l q1
        exact q6 (by rw [q2]; exact List.mem_cons_self ..)
      rcases hfp b hb with rfl | ⟨q1, o', vs, k, e1, e2⟩
      · exact Tb.keep _ _ (Ta.keep _ _ e hL hcl (hown Fn)) hL hcl (hown Fa)
      · have e1' := g2.kp _ _ e1
        obtain ⟨p1, p2⟩ := apart b o' vs k e1' e2
        have hno : b ∉ owns σj Pj := fun q => by
          rcases T2.new b q with q | q
          · exact q1 (List.mem_append_right _ q)
          · rw [e1'] at q; cases q
        have hno2 : b ∉ owns σ₁ Pa := fun q => by
          rcases Ta.new b q with q | q
          · exact hno q
          · change h'.get? b = none at q
            rw [e] at q; cases q
        exact Tb.keep _ _ (Ta.keep _ _ e p1 p2 hno) p1 p2 hno2
    cases fb with
    | nxt =>
      cases hfb
      exact ⟨k - 1, by omega, j + 1, σb, Pb, mb', cmb, by omega, Fb, hlb.symm, hstb, T3, hrest⟩
    | cnt =>
      cases hfb
      exact ⟨k - 1, by omega, j + 1, σb, Pb, mb', cmb, by omega, Fb, hlb.symm, hstb, T3, hrest⟩
    | brk =>
      cases hfb
      cases hrest
      exact ⟨_, rfl, done Fb hlb.symm T3 rfl⟩
    | ret v =>
      obtain ⟨rv, rfp, rfl, rr, ro⟩ := hfb
      cases hrest
      exact ⟨_, rfl, done Fb hlb.symm T3 ⟨rv, rfp, rfl, rr, off_sub ro fun b hb => List.mem_cons_of_mem _ hb⟩⟩
  · have hjn : j = ds.length := by omega
    subst hjn
    rw [List.drop_length] at hrj
    cases hrj
    refine WA.done sx _ _ hstj fun h' tk hk' => ?_
    have hO : I ∉ O₀ := fun q => by
      obtain ⟨o, e⟩ := F.live I q
      rw [hIs] at e; cases e
    have k' : ∀ b o, b ≠ I → sx.heap.get? b = some o → h'.get? b = some o := fun b o q e => hk' b o (by simpa using q) e
    have T' := (Go.tr (env := env) (O := owns σ P) g2).toI.trans Tj
    refine wpAny_pure ⟨_, rfl, _, _, _, Fj.last (tk := tk) hL hcl h0 hO hk', ⟨fun b o e h1 h2 h3 => ?_, T'.new, fun b hb => ?_⟩, hkj.symm, rfl⟩
    · have q : b ≠ I := fun q => by rw [q, hIs] at e; cases e
      exact k' b o q (T'.keep b o e h1 h2 h3 q)
    · by_cases q : b = I
      · rw [q]; exact hIs
      · refine T'.live b ?_
        cases e : sx.heap.get? b with
        | none => rfl
        | some o =>
          change h'.get? b = none at hb
          rw [k' b o q e] at hb; cases hb
end
end Mine
namespace Mine
open PySem PySem.SeqAt PyProof.Rows PySem.Calls
section
variable {prog : Program} {w : World} {mg mb : Str → Option Value} {h₀ : Heap} {lv : Nat} {fns : List Str} {Φ : List (List D → Option D)} {ipv4 : Str → Bool} {W : Nat} {n : Nat} {A : Around} {E : Value → Shared → Prop} {c : Cx} {env : Env} {s s' s'' s₀ : Shared} {O O' O'' O₀ : List Addr} {σ σ' : List Slot} {P : Nat → Addr} {m cm : Str → Option Value} {fl : Fl} {x : X} {d : D} {I : Addr}

theorem Out.weak {f : Flow} (hs : ∀ b ∈ O', b ∈ O) (g : Go s s') (h : Out s₀ O₀ c env c.k s' O' σ' fl f s'') : Out s₀ O₀ c env c.k s O σ' fl f s'' := by
  obtain ⟨P', m', cm', F', T', hl, hf⟩ := h
  refine ⟨P', m', cm', F', ⟨fun b o e h1 h2 h3 => T'.keep b o (g.kp b o e) h1 h2 fun q => h3 (hs b q), fun b hb => ?_, fun b hb => ?_⟩, hl, hf⟩
  · rcases T'.new b hb with q | q
    · exact .inl (hs b q)
    · exact .inr ((Go.tr (env := env) (O := []) g).live b q)
  · exact (Go.tr (env := env) (O := []) g).live b (T'.live b hb)

theorem st_for {target it : Expr} {body : List Stmt} {pos : Pos} {xi : X} {fz : List Nat} {σ₁ : List Slot} {ds : List D} {put : D → List Slot → Option (List Slot)} {bd : Mine.S} {mu : List Nat}
    (T : Tied prog w mg mb h₀ lv fns Φ) (hB : SB prog w h₀ lv fns Φ ipv4 W n) (B : Body h₀ lv fns n A c env s₀) (hk : c.k = σ.length)
    (F : Fr s₀ O₀ c env σ P m cm s) (cb : cSs n c mu body = some bd) (ci : cI n c it = some xi) (hns : notSet it = true) (ht : ∀ (I : Addr) (v : Value) (sx : Shared) (o : Obj) (n : String) (Q : Unit → Shared → Prop) (E : Value → Shared → Prop), sx.heap.get? I = some o → o.cls = .type n → owners.contains n = false → Q () sx → wpAny (model prog w) A (letOwnedTupleGo target (.ref I) v) Q E sx)
    (hput : ∀ (E : Value → Shared → Prop) (O₁ : List Addr) (σ σ₁ : List Slot) (P : Nat → Addr) (m cm : Str → Option Value) (s : Shared) (v : Value) (d : D) (fq : List Addr), Fr s₀ O₁ c env σ P m cm s → c.k = σ.length → Rd s.heap v d fq → Off fq (O₁ ++ owns σ P) → put d σ = some σ₁ →
      wpAny (model prog w) A (assign target env v) (fun _ s' => ∃ P' m' cm', Fr s₀ O₁ c env σ₁ P' m' cm' s' ∧ σ₁.length = σ.length ∧ Tr env s (owns σ P) s' (owns σ₁ P')) E s)
    (hev : evI Φ σ fz xi = some (d, σ₁)) (hds : items d = some ds)
    (hr : forL (fun d σ => (put d σ).bind (run Φ ipv4 W bd)) ds σ₁ = some (σ', fl)) :
    wpAny (model prog w) A (exec (.For target it body [] pos) env) (Out s₀ O₀ c env c.k s (owns σ P) σ' fl) E s := by
  obtain ⟨F₁, hs, hl, hv⟩ := evI_frame F hev
  have hk₁ := hk.trans hl.symm
  refine wpAny_For ?_ (notSet_fold hns)
  refine wpAny_mono (tI T n A E c env it xi s _ _ d ds (hereF B hk₁ F₁) ci hv hds) (fun xv s₁ h₁ => wpAny_mono h₁ (fun iv s₂ h₂ => ?_) fun _ _ e => e) fun _ _ e => e
  obtain ⟨s', g, hit⟩ := h₂
  refine codeAny_mono (for_loop hB B hk₁ (F₁.go g) cb hit ht hput hr) fun r s₃ h₃ => ?_
  obtain ⟨f, rfl, h₃⟩ := h₃
  exact h₃.weak hs g

theorem st_for1 {y : Str} {p pos : Pos} {it : Expr} {body : List Stmt} {i : Nat} {fz : List Nat} {xi : X} {bd : Mine.S} {mu : List Nat}
    (T : Tied prog w mg mb h₀ lv fns Φ) (hB : SB prog w h₀ lv fns Φ ipv4 W n) (B : Body h₀ lv fns n A c env s₀) (hk : c.k = σ.length)
    (F : Fr s₀ O₀ c env σ P m cm s) (hi : c.store? y = some i) (cb : cSs n c mu body = some bd) (ci : cI n c it = some xi) (hns : notSet it = true)
    (hr : run Φ ipv4 W (.for1 i fz xi bd) σ = some (σ', fl)) :
    wpAny (model prog w) A (exec (.For (.Name y p) it body [] pos) env) (Out s₀ O₀ c env c.k s (owns σ P) σ' fl) E s := by
  simp only [run, Option.bind_eq_some_iff] at hr
  obtain ⟨⟨d, σ₁⟩, hev, ds, hds, hr⟩ := hr
  refine st_for (put := fun d σ => some (σ.set i (.frz d))) T hB B hk F cb ci hns (fun _ _ _ _ _ _ _ _ _ _ hQ => wpAny_pure hQ) (fun E O₁ σ σ₁ P m cm s v d fq F hk r o hp => ?_) hev hds hr
  cases hp
  refine wpAny_assign_Name (wpAny_mono (store_frz B.eo B.J F hi r (off_sub o (sub_app owns_frz))) (fun _ s' h => ?_) fun _ _ e => e)
  obtain ⟨m', cm', F', T', _⟩ := h
  exact ⟨P, m', cm', F', List.length_set .., T'⟩

theorem st_while {t : Expr} {body : List Stmt} {pos : Pos} {xt : X} {bd : Mine.S} {mu : List Nat}
    (T : Tied prog w mg mb h₀ lv fns Φ) (hB : SB prog w h₀ lv fns Φ ipv4 W n) (B : Body h₀ lv fns n A c env s₀) (hk : c.k = σ.length)
    (F : Fr s₀ O₀ c env σ P m cm s) (cb : cSs n c mu body = some bd) (ct : cE n c t = some xt) (hr : run Φ ipv4 W (.whil xt bd) σ = some (σ', fl)) :
    wpAny (model prog w) A (exec (.While t body [] pos) env) (Out s₀ O₀ c env c.k s (owns σ P) σ' fl) E s := by
  simp only [run] at hr
  refine wpAny_While (codeAny_mono (R := LoopOut s₀ O₀ c env s (owns σ P) σ' fl) (codeAny_whileLoop (fun k sx => ∃ σj Pj mj cmj, Fr s₀ O₀ c env σj Pj mj cmj sx ∧ c.k = σj.length ∧ Tr env s (owns σ P) sx (owns σj Pj) ∧
    whileL (fun σ => (ev Φ xt (alls σ)).bind truth) (run Φ ipv4 W bd) k σj = some (σ', fl)) (fun k sx hx => ?_) W ⟨σ, P, m, cm, F, hk, .refl, hr⟩) fun r s₃ h₃ => ?_)
  · obtain ⟨σj, Pj, mj, cmj, Fj, hkj, Tj, hw⟩ := hx
    cases k with
    | zero => cases hw
    | succ k =>
      simp only [whileL, Option.bind_eq_some_iff] at hw
      obtain ⟨bv, ⟨dv, h1, h2⟩, hw⟩ := hw
      refine wpAny_mono (tT T n A _ c env t xt sx _ _ dv bv (hereA B hkj Fj) ct h1 h2) (fun b' sa ha => ?_) fun _ _ e => e
      obtain ⟨rfl, g⟩ := ha
      cases b' with
      | false =>
        cases hw
        rw [if_neg Bool.false_ne_true]
        exact wpAny_pure ⟨_, rfl, Pj, mj, cmj, Fj.go g, Tj.trans (Go.tr g), hkj.symm, rfl⟩
      | true =>
        simp only [Option.bind_eq_some_iff] at hw
        obtain ⟨⟨σb, fb⟩, hrun, hrest⟩ := hw
        rw [if_pos rfl]
        refine wpAny_mono (hB A _ c env mu body bd s₀ sa O₀ σj σb Pj mj cmj fb B hkj (Fj.go g) cb hrun) (fun f sb hb => ?_) fun _ _ e => e
        obtain ⟨Pb, mb', cmb, Fb, Tb, hlb, hfb⟩ := hb
        have T3 := (Tj.trans (Go.tr g)).trans Tb
        cases fb with
        | nxt => cases hfb; exact ⟨k, Nat.lt_succ_self _, σb, Pb, mb', cmb, Fb, hlb.symm, T3, hrest⟩
        | cnt => cases hfb; exact ⟨k, Nat.lt_succ_self _, σb, Pb, mb', cmb, Fb, hlb.symm, T3, hrest⟩
        | brk => cases hfb; cases hrest; exact ⟨_, rfl, Pb, mb', cmb, Fb, T3, hlb, rfl⟩
        | ret v =>
          obtain ⟨rv, rfp, rfl, rr, ro⟩ := hfb
          cases hrest
          exact ⟨_, rfl, Pb, mb', cmb, Fb, T3, hlb, rv, rfp, rfl, rr, ro⟩
  · obtain ⟨f, rfl, h₃⟩ := h₃
    exact h₃

/-- a method of a list of its own -/
theorem st_method {y mn : Str} {p ap q pos : Pos} {args : List Expr} {i : Nat} {l : List D} {Q : Flow → Shared → Prop} (B : Body h₀ lv fns n A c env s₀) (F : Fr s₀ O₀ c env σ P m cm s) (hi : c.own? y = some i) (hl : σ[i]? = some (.own l)) (_hline : (ap.endLine == q.line) = true)
    (hc : ∀ {Q : Value → Shared → Prop}, wpAny (model prog w) A (eval (.Name y p) env) (fun ov s₁ => MethodOnS prog w A E mn ov q (backTo q (starEach args env)) Q s₁) E s → wpAny (model prog w) A (eval (.Call (.Attribute (.Name y p) mn ap) args [] q) env) Q E s)
    (h : ∀ vs k fp, vs.size ≤ 16777216 → IsL s.heap (P i) vs k → Rds s.heap vs.toList l fp → Off fp (O₀ ++ owns σ P) → MethodOnS prog w A E mn (.ref (P i)) q (backTo q (starEach args env)) (fun v s' => v = .none ∧ Q .next s') s) :
    wpAny (model prog w) A (exec (.Expr (.Call (.Attribute (.Name y p) mn ap) args [] q) pos) env) Q E s := by
  have hk : env.scope.kind = .function := by rw [B.eo.sc]; exact B.eo.fn
  refine wpAny_Expr (wpAny_mono (Q := fun v s' => v = .none ∧ Q .next s') ?_ (fun v s' h => by obtain ⟨rfl, h⟩ := h; exact h) fun _ _ e => e) (by unfold interactive; rw [hk]; rfl) rfl
  obtain ⟨k1, k2, k3, k4, k5⟩ := own_kind hi
  obtain ⟨vs, k, fp, z, h2, h3, h4, _⟩ := F.lst i l hl
  exact hc (wpAny_Name (ld B.eo hi (F.varAt B.eo hi (F.val y i _ hi hl)) (h vs k fp z h2 h3 h4)) k1)

theorem name_base {y nm : Str} {p : Pos} : attributeBase (.Name y p) nm env (eval (.Name y p) env) = eval (.Name y p) env := by
  unfold attributeBase
  split
  · rename_i h; cases h
  · rfl

theorem st_append {y : Str} {p ap q pos : Pos} {e : Expr} {i : Nat} (T : Tied prog w mg mb h₀ lv fns Φ) (B : Body h₀ lv fns n A c env s₀) (hk : c.k = σ.length) (F : Fr s₀ O₀ c env σ P m cm s) (hi : c.own? y = some i) (hline : (ap.endLine == q.line) = true)
    (c1 : cE n c e = some x) (hr : run Φ ipv4 W (.append i x) σ = some (σ', fl)) :
    wpAny (model prog w) A (exec (.Expr (.Call (.Attribute (.Name y p) "append" ap) [e] [] q) pos) env) (Out s₀ O₀ c env c.k s (owns σ P) σ' fl) E s := by
  simp only [run, Option.bind_eq_some_iff, Option.ite_none_right_eq_some, Option.map_eq_some_iff] at hr
  obtain ⟨l, hl, hz, d, ⟨d', h1, h2⟩, hr⟩ := hr
  cases hr
  have hl' : σ[i]? = some (.own l) := by
    unfold ownAt at hl
    split at hl
    · rename_i q; cases hl; exact q
    · cases hl
  have hval : wpAny (model prog w) A (eval e env) (fun v s' => Go s s' ∧ ∃ fq, Rd s'.heap v d fq ∧ Off fq (O₀ ++ owns σ P)) E s := by
    split at h2
    · rename_i hs
      cases h2
      refine wpAny_mono (tE T n A E c env e x s _ _ d (hereA B hk F) c1 h1) (fun v s' p => ?_) fun _ _ e => e
      obtain ⟨g, ⟨fp, r, o⟩, _⟩ := p
      obtain rfl := scalar_fp r hs
      exact ⟨g, [], r, off_nil⟩
    · exact wpAny_mono (tE T n A E c env e x s _ _ d (hereF B hk F) c1 h2) (fun v s' p => ⟨p.1, p.2.1⟩) fun _ _ e => e
  refine st_method B F hi hl' hline (fun h => Call_method1 name_base (cE_plain c1 []) hline (by rw [cE_plain c1] at h; exact h)) fun vs k fp z h2 h3 h4 => ?_
  rw [cE_plain c1]
  refine ⟨"list", "list.append", PySem.F.plainAttrs_list, PySem.F.slot_list_append, PySem.F.type_list_append, Heap.IsList.typeIs (Mine.IsL.isList h2), (fun b e => ⟨_, by cases e; exact h2, rfl⟩), ?_⟩
  refine PySem.P.append_list (wpAny_mono hval (fun v s₁ h₁ => ?_) fun _ _ e => e)
  obtain ⟨g, fq, r, o⟩ := h₁
  have e1 : vs.size = l.length := by simpa using h3.length
  refine ⟨vs, k, by rw [sizeL]; omega, g.kp _ _ h2, rfl, ?_⟩
  obtain ⟨F', T'⟩ := (F.go g).mut (tk := s₁.toks) (h' := s₁.heap.update (P i) (Obj.mapSeq fun xs => xs.push v)) (l := l ++ [d]) (vs := vs.push v) hl' (fun b hb => Heap.get?_update_other _ _ (Ne.symm hb)) (by rw [Array.size_push]; omega) (IsL.update (g.kp _ _ h2) _)
    (by rw [Array.toList_push]; exact (h3.kp g.kp).append (.cons r .nil)) (fun b hb => by
      rcases List.mem_append.mp hb with hb | hb
      · exact h4 b hb
      · rw [List.append_nil] at hb; exact o b hb)
  exact .of F' ((Go.tr g).trans T') (by rw [List.length_set, hk]) rfl
end
end Mine
namespace Mine
open PySem PySem.SeqAt PyProof.Rows PySem.Calls
section
variable {prog : Program} {w : World} {mg mb : Str → Option Value} {h₀ : Heap} {lv : Nat} {fns : List Str} {Φ : List (List D → Option D)} {ipv4 : Str → Bool} {W : Nat} {n : Nat} {A : Around} {E : Value → Shared → Prop} {c : Cx} {env : Env} {s s' s'' s₀ : Shared} {O O' O'' O₀ : List Addr} {σ σ' : List Slot} {P : Nat → Addr} {m cm : Str → Option Value} {fl : Fl} {x : X} {d : D} {I : Addr}

/-- an item put at a place from the left -/
theorem s_setItem0 {a : Addr} {vs : Array Value} {k : Nat} {i : Int} {t : Tok} {v : Value} {Q : Unit → Shared → Prop} (hl : IsL s.heap a vs k) (h0 : 0 ≤ i) (hn : i < vs.size) (hz : i < 2 ^ 63)
    (hQ : Q () { s with heap := s.heap.update a (Obj.mapSeq (·.setIfInBounds i.toNat v)) }) : wpAny (model prog w) A (setItem (.ref a) (.int i t) v) Q E s := by
  have hi := Mine.IsL.isList hl
  unfold setItem
  refine wpAny_holding (wpAny_bind (wpAny_sequenceKey hi.typeIs (by decide) ?_))
  refine wpAny_bind (wpAny_callSpecial?_slot (name := Str.ofString "__setitem__") hi.typeIs slot_list_setitem (wpAny_call_entry slot_list_setitem hi.typeIs entry_list_setitem ?_ (args_list_setitem _ _ _)))
  refine wpAny_bind (m := Builtin.List.listSubscript? (.int i t)) (wpAny_listSubscript_int (fitsIndex_of h0 hz) ?_)
  clear hz
  obtain ⟨j, rfl⟩ := Int.eq_ofNat_of_zero_le h0
  have hj : j < vs.size := by omega
  refine wpAny_bind (m := (seqItemAt a j >>= fun r => pure (r.map (j, ·)))) (wpAny_bind (wpAny_seqItemAt hl rfl (wpAny_pure ?_)))
  rw [Array.getElem?_eq_getElem hj]
  refine wpAny_bind (m := setSeqItemAt a j v) (wpAny_setSeqItemAt hl rfl ?_)
  exact wpAny_bind (wpAny_pure (wpAny_pure ⟨.none, rfl, wpAny_pure hQ⟩))
/-- .. from the right -/
theorem s_setItem1 {a : Addr} {vs : Array Value} {k : Nat} {i : Int} {t : Tok} {v : Value} {Q : Unit → Shared → Prop} (hl : IsL s.heap a vs k) (h0 : i < 0) (hn : 0 ≤ i + vs.size) (hz : -(2 ^ 63) ≤ i)
    (hQ : Q () { s with heap := s.heap.update a (Obj.mapSeq (·.setIfInBounds (i + vs.size).toNat v)) }) : wpAny (model prog w) A (setItem (.ref a) (.int i t) v) Q E s := by
  have hi := Mine.IsL.isList hl
  unfold setItem
  refine wpAny_holding (wpAny_bind (wpAny_sequenceKey hi.typeIs (by decide) ?_))
  refine wpAny_bind (wpAny_callSpecial?_slot (name := Str.ofString "__setitem__") hi.typeIs slot_list_setitem (wpAny_call_entry slot_list_setitem hi.typeIs entry_list_setitem ?_ (args_list_setitem _ _ _)))
  refine wpAny_bind (m := Builtin.List.listSubscript? (.int i t)) (wpAny_listSubscript_int (fitsIndex_neg h0 hz) ?_)
  clear hz
  have hidx := seqIndex_neg h0 (by omega : -(vs.size : Int) ≤ i)
  have hj : (i + vs.size).toNat < vs.size := by omega
  obtain ⟨j, rfl⟩ : ∃ j : Nat, i = Int.negSucc j := by
    cases i with
    | ofNat q => exact absurd h0 (Int.not_lt.mpr (Int.ofNat_nonneg q))
    | negSucc q => exact ⟨q, rfl⟩
  refine wpAny_bind (m := (Builtin.List.listItems (.ref a) >>= fun xs => pure ((seqIndex? (Int.negSucc j) xs.size).bind fun i => xs[i]?.map (i, ·)))) (wpAny_bind ?_)
  refine wpAny_bind (m := seqItems? (.ref a)) (wpAny_seqItems hl rfl (wpAny_pure (wpAny_pure ?_)))
  rw [hidx]
  simp only [Option.bind_some, Array.getElem?_eq_getElem hj, Option.map_some]
  refine wpAny_bind (m := setSeqItemAt a _ v) (wpAny_setSeqItemAt hl rfl ?_)
  exact wpAny_bind (wpAny_pure (wpAny_pure ⟨.none, rfl, wpAny_pure hQ⟩))

theorem aug_store {n : Nat} {c : Cx} {i : Expr} {x : X} (h : cE n c i = some x) (ov iv new : Value) : augStore i ov iv new = (do holding [new, ov, iv] (setItem ov iv new); release [new, ov, iv] []; pure .next) := by
  unfold augStore
  split
  · cases n <;> exact no h
  · rfl

theorem ownAt_get {i : Nat} {l : List D} (hl : ownAt σ i = some l) : σ[i]? = some (.own l) := by
  unfold ownAt at hl
  split at hl
  · rename_i q; cases hl; exact q
  · cases hl

theorem st_augIdx {y : Str} {p tp pos : Pos} {ki e : Expr} {i : Nat} {xk : X} {op : Operator} {o : BOp} (T : Tied prog w mg mb h₀ lv fns Φ) (B : Body h₀ lv fns n A c env s₀) (hk : c.k = σ.length) (F : Fr s₀ O₀ c env σ P m cm s) (hi : c.own? y = some i)
    (ho : bop? op = some o) (ck : cE n c ki = some xk) (c1 : cE n c e = some x) (hr : run Φ ipv4 W (.augIdx i xk o x) σ = some (σ', fl)) :
    wpAny (model prog w) A (exec (.AugAssign (.Subscript (.Name y p) ki tp) op e pos) env) (Out s₀ O₀ c env c.k s (owns σ P) σ' fl) E s := by
  simp only [run, Option.bind_eq_some_iff] at hr
  obtain ⟨l, hl, dk, hdk, hr⟩ := hr
  cases dk with
  | int q =>
    simp only [Option.ite_none_right_eq_some, Option.bind_eq_some_iff, Option.map_eq_some_iff] at hr
    obtain ⟨hq, old, hold, v, hv, d, hd, hr⟩ := hr
    cases hr
    have hl' := ownAt_get hl
    have H := hereA B hk F
    obtain ⟨vs, k, fp, z, h2, h3, h4, h5, h6⟩ := F.lst i l hl'
    obtain ⟨k1, k2, k3, k4, k5⟩ := own_kind hi
    refine wpAny_AugAssign_SubscriptAny ?_ (aug_store ck)
    refine wpAny_Name (ld B.eo hi (F.varAt B.eo hi (F.val y i _ hi hl')) ?_) k1
    refine wpAny_mono (tE T n A E c env ki xk s _ _ _ H ck hdk) (fun iv s₁ h₁ => ?_) fun _ _ e => e
    obtain ⟨g1, ⟨f1, r1, _⟩, _⟩ := h₁
    have rl : Rd s₁.heap (.ref (P i)) (.list l) (P i :: fp) := .list z (g1.kp _ _ h2) (h3.kp g1.kp)
    have hidx : index (.list l) (.int q) = some old := by simp only [index, if_pos hq]; exact hold
    refine wpAny_mono (s_getItem (O := []) hidx rl r1 (fun _ _ => List.not_mem_nil)) (fun ov s₂ h₂ => ?_) fun _ _ e => e
    obtain ⟨g2, ⟨f2, r2, _⟩, _⟩ := h₂
    refine wpAny_mono (tE T n A E c env e x s₂ _ _ v (H.go (g1.trans g2)) c1 hv) (fun vv s₃ h₃ => ?_) fun _ _ e => e
    obtain ⟨g3, ⟨f3, r3, _⟩, _⟩ := h₃
    refine wpAny_mono (s_aug ho hd (r2.kp g3.kp) r3) (fun nv s₄ h₄ => ?_) fun _ _ e => e
    obtain ⟨g4, r4, _⟩ := h₄
    have g := ((g1.trans g2).trans g3).trans g4
    have h2' := g.kp _ _ h2
    have n1 : vs.size = l.length := by simpa using h3.length
    cases r1 with
    | int _ t =>
      have fin : ∀ j : Nat, j < l.length → putAt l q d = l.set j d →
          Out s₀ O₀ c env c.k s (owns σ P) (σ.set i (.own (putAt l q d))) .nxt .next { s₄ with heap := s₄.heap.update (P i) (Obj.mapSeq (·.setIfInBounds j nv)) } := fun j hj e => by
        rw [e]
        obtain ⟨fr, q1, q2⟩ := (h3.kp g.kp).set j r4
        obtain ⟨F', T'⟩ := (F.go g).mut (tk := s₄.toks) (h' := s₄.heap.update (P i) (Obj.mapSeq (·.setIfInBounds j nv))) (l := l.set j d) (vs := vs.setIfInBounds j nv) hl' (fun b hb => Heap.get?_update_other _ _ (Ne.symm hb)) (by rw [Array.size_setIfInBounds]; exact z) (IsL.update h2' _)
          (by rw [Array.toList_setIfInBounds]; exact q1) (fun b hb => h4 b ((q2 b hb).elim id fun h => nomatch h))
        exact .of F' ((Go.tr g).trans T') (by rw [List.length_set, hk]) rfl
      unfold at? at hold
      split at hold
      · rename_i h0
        obtain ⟨hlt, _⟩ := List.getElem?_eq_some_iff.mp hold
        refine s_setItem0 h2' h0 (by omega) (by omega) (fin q.toNat hlt ?_)
        unfold putAt; rw [if_pos h0]
      · split at hold
        · rename_i h0 h0'
          obtain ⟨hlt, _⟩ := List.getElem?_eq_some_iff.mp hold
          refine s_setItem1 h2' (by omega) (by omega) (by omega) ?_
          rw [n1]
          refine fin (q + l.length).toNat hlt ?_
          unfold putAt; rw [if_neg h0]
        · cases hold
  | _ => cases hr
end
end Mine
namespace Mine
open PySem PySem.SeqAt PyProof.Rows PySem.Calls
section
variable {prog : Program} {w : World} {mg mb : Str → Option Value} {h₀ : Heap} {lv : Nat} {fns : List Str} {Φ : List (List D → Option D)} {ipv4 : Str → Bool} {W : Nat} {n : Nat} {A : Around} {E : Value → Shared → Prop} {c : Cx} {env : Env} {s s' s'' s₀ : Shared} {O O' O'' O₀ : List Addr} {σ σ' : List Slot} {P : Nat → Addr} {m cm : Str → Option Value} {fl : Fl} {x : X} {d : D} {I : Addr}

end
end Mine
namespace Mine
open PySem PySem.SeqAt PyProof.Rows PySem.Calls
section
variable {prog : Program} {w : World} {mg mb : Str → Option Value} {h₀ : Heap} {lv : Nat} {fns : List Str} {Φ : List (List D → Option D)} {ipv4 : Str → Bool} {W : Nat} {n : Nat} {A : Around} {E : Value → Shared → Prop} {c : Cx} {env : Env} {s s' s'' s₀ : Shared} {O O' O'' O₀ : List Addr} {σ σ' : List Slot} {P : Nat → Addr} {m cm : Str → Option Value} {fl : Fl} {x : X} {d : D} {I : Addr}

theorem step_S (T : Tied prog w mg mb h₀ lv fns Φ) (hR : ∀ n, SR prog w h₀ lv fns Φ ipv4 n) (hB : SB prog w h₀ lv fns Φ ipv4 W n) : SS prog w h₀ lv fns Φ ipv4 W (n + 1) := by
  intro A E c env mu st S s₀ s O₀ σ σ' P m cm fl B hk F h hr
  have Bd := B.down
  cases st with
  | Assign ts e _ =>
    obtain ⟨t, rfl, h⟩ := on1_is h
    cases t with
    | Name y _ => exact st_assign T Bd hk F h hr
    | _ => exact no h
  | AugAssign t op e _ => cases t with
    | Name y _ =>
      obtain ⟨i, hi, h⟩ := bnd h
      obtain ⟨hy, h⟩ := itb h
      obtain ⟨o, ho, h⟩ := bnd h
      obtain ⟨x, c1, h⟩ := bnd h
      rcases iteB h with ⟨_, h⟩ | ⟨_, h⟩
      · exact no h
      · cases h; exact st_aug T Bd hk F hi (by simpa using hy) ho c1 hr
    | Subscript v k _ =>
      obtain ⟨_, _, rfl, h⟩ := onName_is h
      obtain ⟨i, hi, h⟩ := bnd h
      obtain ⟨o, ho, h⟩ := bnd h
      obtain ⟨xk, ck, h⟩ := bnd h
      obtain ⟨x, c1, rfl⟩ := mpd h
      exact st_augIdx T Bd hk F hi ho ck c1 hr
    | _ => exact no h
  | Expr e _ => cases e with
    | Call f args kws _ => cases kws with
      | cons _ _ => exact no h
      | nil => cases f with
        | Attribute o m _ =>
          obtain ⟨_, _, rfl, h⟩ := onName_is h
          obtain ⟨hl, h⟩ := itb h
          obtain ⟨i, hi, h⟩ := bnd h
          cases args with
          | nil => exact no h
          | cons a args => cases args with
            | nil =>
              by_cases hm : m = "append"
              · subst hm
                obtain ⟨x, c1, rfl⟩ := mpd h
                exact st_append T Bd hk F hi hl c1 hr
              · exact no ((if_neg hm).symm.trans h)
            | cons b args => cases args with
              | nil =>
                exact no h
              | cons _ _ => exact no h
        | _ => exact no h
    | _ => exact no h
  | If t a b _ =>
    obtain ⟨Sa, ca, h⟩ := bnd h
    obtain ⟨Sb, cb, h⟩ := bnd h
    cases he : search? c t with
    | some e =>
      rw [he] at h
      obtain ⟨xt, ct, rfl⟩ := mpd h
      exact st_search (hR _) hB Bd hk F ca cb he ct hr
    | none =>
      rw [he] at h
      obtain ⟨xt, ct, rfl⟩ := mpd h
      exact st_ite T hB Bd hk F ca cb ct hr
  | For t it b els _ => cases els with
    | cons _ _ => exact no h
    | nil =>
      obtain ⟨hns, h⟩ := itb h
      cases t with
      | Name _ _ =>
        obtain ⟨i, hi, h⟩ := bnd h
        obtain ⟨xi, ci, h⟩ := bnd h
        obtain ⟨bd, cb, rfl⟩ := mpd h
        exact st_for1 T hB Bd hk F hi cb ci hns hr
      | _ => exact no h
  | While t b els _ => cases els with
    | cons _ _ => exact no h
    | nil =>
      obtain ⟨xt, ct, h⟩ := bnd h
      obtain ⟨bd, cb, rfl⟩ := mpd h
      exact st_while T hB Bd hk F cb ct hr
  | Return e _ => cases e with
    | some e =>
      obtain ⟨xt, ct, rfl⟩ := mpd h
      exact st_ret T Bd hk F ct hr
    | none => exact no h
  | Break _ =>
    cases h; cases hr
    exact wpAny_bind (wpAny_standAt (wpAny_pure (.of F .refl hk.symm rfl)))
  | Continue _ =>
    cases h; cases hr
    exact wpAny_bind (wpAny_standAt (wpAny_pure (.of F .refl hk.symm rfl)))
  | _ => exact no h

theorem all_S (T : Tied prog w mg mb h₀ lv fns Φ) (hR : ∀ n, SR prog w h₀ lv fns Φ ipv4 n) : ∀ n, SS prog w h₀ lv fns Φ ipv4 W n ∧ SB prog w h₀ lv fns Φ ipv4 W n
  | 0 => ⟨fun A E c env mu st S s₀ s O₀ σ σ' P m cm fl B hk F h => by exact no h, fun A E c env mu st S s₀ s O₀ σ σ' P m cm fl B hk F h => by exact no h⟩
  | n + 1 => by
    obtain ⟨hS, hB⟩ := all_S T hR n
    exact ⟨step_S T hR hB, step_B hS hB⟩
end
end Mine
namespace Mine
open PySem PySem.SeqAt PyProof.Rows PySem.Calls

theorem number_look : ∀ {names : List Str} {k i : Nat} {x : Str}, (number names k).lookup x = some i → k ≤ i ∧ names[i - k]? = some x
  | [], _, _, _, h => by simp [number] at h
  | y :: r, k, i, x, h => by
    rw [number, List.lookup_cons] at h
    cases hb : x == y with
    | true =>
      rw [hb] at h; cases h
      exact ⟨Nat.le_refl _, by rw [Nat.sub_self, beq_iff_eq.mp hb]; rfl⟩
    | false =>
      rw [hb] at h
      obtain ⟨h1, h2⟩ := number_look h
      refine ⟨by omega, ?_⟩
      rw [show i - k = (i - (k + 1)) + 1 from by omega]
      exact h2

theorem bindL_skip {kd : Str → Option NameKind} {x : Str} : ∀ (l : List (Str × Value)) (m : Str → Option Value), x ∉ l.map (·.1) → bindL kd l m x = m x
  | [], _, _ => rfl
  | (n, v) :: r, m, h => by
    simp only [List.map_cons, List.mem_cons, not_or] at h
    rw [bindL, bindL_skip r _ h.2]
    split
    · exact if_neg h.1
    · rfl
theorem bindC_skip {kd : Str → Option NameKind} {x : Str} : ∀ (l : List (Str × Value)) (m : Str → Option Value), x ∉ l.map (·.1) → bindC kd l m x = m x
  | [], _, _ => rfl
  | (n, v) :: r, m, h => by
    simp only [List.map_cons, List.mem_cons, not_or] at h
    rw [bindC, bindC_skip r _ h.2]
    split
    · rfl
    · exact if_neg h.1
theorem bindL_get {kd : Str → Option NameKind} {x : Str} {v : Value} (hk : kd x = some .local) : ∀ (l : List (Str × Value)) (m : Str → Option Value), (l.map (·.1)).Nodup → (x, v) ∈ l → bindL kd l m x = some v
  | (n, u) :: r, m, hn, h => by
    simp only [List.map_cons, List.nodup_cons] at hn
    rcases List.mem_cons.mp h with e | h
    · cases e
      rw [bindL, bindL_skip r _ hn.1, if_pos hk]
      exact if_pos rfl
    · rw [bindL]; exact bindL_get hk r _ hn.2 h
theorem bindC_get {kd : Str → Option NameKind} {x : Str} {v : Value} (hk : kd x ≠ some .local) : ∀ (l : List (Str × Value)) (m : Str → Option Value), (l.map (·.1)).Nodup → (x, v) ∈ l → bindC kd l m x = some v
  | (n, u) :: r, m, hn, h => by
    simp only [List.map_cons, List.nodup_cons] at hn
    rcases List.mem_cons.mp h with e | h
    · cases e
      rw [bindC, bindC_skip r _ hn.1, if_neg hk]
      exact if_pos rfl
    · rw [bindC]; exact bindC_get hk r _ hn.2 h

theorem cells_acc {x : Str} : ∀ (names : List (Str × NameKind)) (n : Nat) (acc : List (Str × Addr)), (acc.lookup x).isSome = true → ((cellsFrom n names acc).lookup x).isSome = true
  | [], _, _, h => h
  | (y, k) :: r, n, acc, h => by
    unfold cellsFrom
    split
    · refine cells_acc r _ _ ?_
      rw [List.lookup_cons]
      split
      · rfl
      · exact h
    · exact cells_acc r _ _ h
theorem cells_mem {x : Str} : ∀ (names : List (Str × NameKind)) (n : Nat) (acc : List (Str × Addr)), (x, NameKind.cell) ∈ names → ((cellsFrom n names acc).lookup x).isSome = true
  | (y, k) :: r, n, acc, h => by
    unfold cellsFrom
    rcases List.mem_cons.mp h with e | h
    · cases e
      refine cells_acc r (n + 1) ((x, n) :: acc) ?_
      rw [List.lookup_cons, beq_self_eq_true]; rfl
    · split
      · exact cells_mem r _ _ h
      · exact cells_mem r _ _ h

section
variable {prog : Program} {w : World} {mg mb : Str → Option Value} {h₀ : Heap} {lv : Nat} {fns : List Str} {Φ : List (List D → Option D)} {ipv4 : Str → Bool} {W : Nat}

theorem CallOk.up {k k' : Nat} {f : Str} {g : List D → Option D} (h : CallOk prog w mg h₀ k f g) (hk : k ≤ k') : CallOk prog w mg h₀ k' f g := by
  obtain ⟨a, o, fd, h1, h2, h3, h4⟩ := h
  exact ⟨a, o, fd, h1, h2, h3, fun A s r => h4 A s (r.le hk)⟩

theorem fn_enter {name : Str} {params : Arguments} {body : List Stmt} {sc : Scope} {a : Addr} {o : Obj} {pm code doc : Value} {A : Around} {s : Shared} {O : List Addr} {vs : List Value} {args : List D} {fp : List Addr} {R : Result → Shared → Prop} (T : Tied prog w mg mb h₀ lv fns Φ)
    (ho : h₀.get? a = some o) (hd : o.data = .func (docDef name params body sc pm code doc)) (hc : h₀.CodeRec code name) (hok : headOk params sc = true)
    (hbind : bindArgs (docDef name params body sc pm code doc) ⟨vs, []⟩ = pure ((params.args.map (·.arg)).zip vs)) (hrm : Rm (lv + fuel + 1) A) (K : KP h₀ s.heap) (L : Live O s.heap) (rs : Rds s.heap vs args fp) (of : Off fp O) (hlen : args.length = params.args.length)
    (h : ∀ (s₁ : Shared) (m cm : Str → Option Value) (E : Value → Shared → Prop), Body h₀ lv fns fuel (A.deeper (callEnvC (docDef name params body sc pm code doc) s.heap.objs.size a)) (headCx fns sc) (callEnvC (docDef name params body sc pm code doc) s.heap.objs.size a) s →
      (slotsOf sc).length = (args.map Slot.frz ++ List.replicate ((slotsOf sc).length - args.length) Slot.unset).length → Fr s O (headCx fns sc) (callEnvC (docDef name params body sc pm code doc) s.heap.objs.size a) (args.map Slot.frz ++ List.replicate ((slotsOf sc).length - args.length) Slot.unset) (fun _ => 0) m cm s₁ →
      wpAny (model prog w) (A.deeper (callEnvC (docDef name params body sc pm code doc) s.heap.objs.size a)) (execs body (callEnvC (docDef name params body sc pm code doc) s.heap.objs.size a)) (fun f s' => R (.ok (.ret (match f with | .ret v => v | _ => .none))) s') E s₁) :
    codeAny (model prog w) A (.call (.ref a) ⟨vs, []⟩) R s := by
  unfold headOk at hok
  simp only [Bool.and_eq_true, beq_iff_eq, Bool.not_eq_true', List.all_eq_true, decide_eq_true_eq, bne_iff_ne] at hok
  obtain ⟨⟨⟨⟨⟨⟨⟨⟨⟨⟨⟨hkind, hgen⟩, hco⟩, _⟩, _⟩, _⟩, _⟩, _⟩, hpre⟩, hnd⟩, hlook⟩, hfree⟩ := hok
  have hvl : vs.length = params.args.length := rs.length.trans hlen
  have hpre' := List.isPrefixOf_iff_prefix.mp hpre
  obtain ⟨rest, hrest⟩ := hpre'
  have hndp : (params.args.map (·.arg)).Nodup := by
    rw [← hrest] at hnd; exact (List.nodup_append.mp hnd).1
  have hzip : (((params.args.map (·.arg)).zip vs).map (·.1)) = params.args.map (·.arg) := by
    rw [List.map_fst_zip]; simp [hvl]
  have hkinds : ∀ x ∈ slotsOf sc, sc.names.lookup x = some .local ∨ sc.names.lookup x = some .cell := fun x hx => by
    unfold slotsOf at hx
    obtain ⟨⟨y, kd⟩, h1, rfl⟩ := List.mem_map.mp hx
    obtain ⟨h1, h2⟩ := List.mem_filter.mp h1
    have := hlook _ h1
    simp only [Bool.or_eq_true, beq_iff_eq] at h2
    rcases h2 with h2 | h2
    · left; rw [this]; exact congrArg some h2
    · right; rw [this]; exact congrArg some h2
  refine codeAny_call_cells (by have := hrm.d; unfold recursionLimit; omega) (K _ _ ho) hd (T.base.nolimit.keeps K) (hc.keeps K) rfl hbind rfl (fun x hx => ?_) (fun s₁ ic => ?_) hco hgen hkind
  · have hx' : x.1 ∈ slotsOf sc := by
      have : x.1 ∈ params.args.map (·.arg) := by rw [← hzip]; exact List.mem_map_of_mem hx
      rw [← hrest]; exact List.mem_append_left _ this
    rcases hkinds _ hx' with h | h
    · exact .inl h
    · exact .inr ⟨h, cells_mem _ _ _ (mem_of_lookup h)⟩
  · have hΓ : ∀ {x : Str} {i : Nat}, (number (slotsOf sc) 0).lookup x = some i → (slotsOf sc)[i]? = some x := fun h => by
      have := (number_look h).2
      rwa [Nat.sub_zero] at this
    have EO : EnvOk (headCx fns sc) (callEnvC (docDef name params body sc pm code doc) s.heap.objs.size a) := by
      refine ⟨rfl, hkind, rfl, rfl, fun x hx => ?_, fun x i hx => ?_⟩
      · rcases hx with h | h
        · exact Option.isSome_iff_exists.mp (cells_mem _ _ _ (mem_of_lookup h))
        · exact absurd rfl (hfree _ (mem_of_lookup h))
      · obtain ⟨h, _⟩ := List.getElem?_eq_some_iff.mp (hΓ hx)
        exact h
    have J : Inj (headCx fns sc) := fun x y i hx hy => by
      have h1 := hΓ hx
      rw [hΓ hy] at h1
      exact (Option.some.inj h1).symm
    have hlenle : params.args.length ≤ (slotsOf sc).length := by
      rw [← hrest, List.length_append, List.length_map]; omega
    have hσl : (args.map Slot.frz ++ List.replicate ((slotsOf sc).length - args.length) Slot.unset).length = (slotsOf sc).length := by
      rw [List.length_append, List.length_map, List.length_replicate]; omega
    have noOwn : ∀ i l, (args.map Slot.frz ++ List.replicate ((slotsOf sc).length - args.length) Slot.unset)[i]? ≠ some (Slot.own l) := fun i l h => by
      have := List.mem_of_getElem? h
      rcases List.mem_append.mp this with h | h
      · obtain ⟨_, _, e⟩ := List.mem_map.mp h; cases e
      · cases (List.mem_replicate.mp h).2
    refine h s₁ _ _ _ ⟨Rm.deeper (hrm.le (by omega)), EO, rfl, J, K⟩ hσl.symm ⟨ic, fun x i sl hx hsl => ?_, fun i l h => absurd h (noOwn i l), fun i j l l' h => absurd h (noOwn i l), L.kp ic.toInCall.keep⟩
    have hx' := hΓ (own_look hx)
    by_cases hi : i < args.length
    · rw [List.getElem?_append_left (by rw [List.length_map]; exact hi), List.getElem?_map] at hsl
      obtain ⟨d, hd, rfl⟩ := Option.map_eq_some_iff.mp hsl
      obtain ⟨v, fq, hv, r, hfq⟩ := rs.get hd
      refine ⟨v, fq, ?_, r.kp ic.toInCall.keep, fun b hb hm => ?_⟩
      · have hxa : (params.args.map (·.arg))[i]? = some x := by
          rw [← hrest, List.getElem?_append_left (by rw [List.length_map]; omega)] at hx'
          exact hx'
        have hmem : (x, v) ∈ (params.args.map (·.arg)).zip vs := by
          refine List.mem_of_getElem? (i := i) ?_
          rw [List.getElem?_zip_eq_some]
          exact ⟨hxa, hv⟩
        unfold look
        split
        · rename_i hkx
          exact bindL_get hkx _ _ (by rw [hzip]; exact hndp) hmem
        · rename_i hkx
          exact bindC_get hkx _ _ (by rw [hzip]; exact hndp) hmem
      · rcases List.mem_append.mp hm with q | q
        · exact of b (hfq b hb) q
        · obtain ⟨i, l, q1, _⟩ := mem_owns.mp q
          exact noOwn i l q1
    · rw [List.getElem?_append_right (by rw [List.length_map]; omega)] at hsl
      have := List.mem_of_getElem? hsl
      rw [(List.mem_replicate.mp this).2]
      trivial

theorem fn_ok {name : Str} {params : Arguments} {body : List Stmt} {sc : Scope} {a : Addr} {o : Obj} {pm code doc : Value} {S : S} {k ar : Nat} (T : Tied prog w mg mb h₀ lv fns Φ) (hR : ∀ n, SR prog w h₀ lv fns Φ ipv4 n)
    (hm : mg name = some (.ref a)) (ho : h₀.get? a = some o) (hd : o.data = .func (docDef name params body sc pm code doc)) (hc : h₀.CodeRec code name)
    (hF : cF fns params body sc = some (S, k, ar)) (hbind : ∀ pm code doc vals, vals.length = ar → bindArgs (docDef name params body sc pm code doc) ⟨vals, []⟩ = pure ((params.args.map (·.arg)).zip vals)) :
    CallOk prog w mg h₀ (lv + fuel + 1) name (fnOut Φ ipv4 W S k ar) := by
  refine ⟨a, o, _, hm, ho, hd, fun A s hrm K O vs args fp d L rs of hg => ?_⟩
  unfold cF at hF
  obtain ⟨hok, hF⟩ := itb hF
  obtain ⟨S', cs, e⟩ := mpd hF
  cases e
  unfold fnOut at hg
  obtain ⟨hlen, hg⟩ := itb hg
  refine fn_enter T ho hd hc hok (hbind _ _ _ vs (rs.length.trans hlen)) hrm K L rs of hlen fun s₁ m cm E B hσl F => ?_
  have hall := (all_S (W := W) T hR fuel).2
  split at hg
  · rename_i σ' d' hrun
    cases hg
    refine wpAny_mono (hall _ _ _ _ _ body S s s₁ O _ σ' _ _ _ _ B hσl F cs hrun) (fun f s' h => ?_) fun _ _ e => e
    obtain ⟨P', m', cm', F', _, _, v, fq, rfl, r, o⟩ := h
    exact ⟨v, rfl, F'.gs, ⟨fq, r, o⟩, fun q => nomatch q⟩
  · rename_i σ' hrun
    cases hg
    refine wpAny_mono (hall _ _ _ _ _ body S s s₁ O _ σ' _ _ _ _ B hσl F cs hrun) (fun f s' h => ?_) fun _ _ e => e
    obtain ⟨P', m', cm', F', _, _, hf⟩ := h
    cases hf
    exact ⟨.none, rfl, F'.gs, ⟨[], .none, off_nil⟩, fun q => nomatch q⟩
  · cases hg
end
end Mine
namespace Mine
open PySem PySem.Sre

noncomputable def reCode : Array Nat := #[14, 8, 1, 2, 4294967295, 1, 1, 46, 0, 16, 46, 24, 9, 1, 4294967295, 13, 4, 8, 0, 0, 1, 6, 5, 1]
/-- a state of the machine at the one pattern -/
noncomputable def mS (t : Array Nat) (st pc pos hd : Nat) (om : Bool) (F : List Sre.Frame) (wt : Nat) (ans : Option Bool) (sn : Sre.Seen) : Sre.M :=
  { code := reCode, text := t, lim := t.size, start := st, lastStart := t.size, pc := pc, pos := pos, handed := hd, outermost := om, marks := #[], frames := F, weight := wt, answer := ans, seen := sn }
noncomputable def fN (s : Nat) (om : Bool) : Sre.Frame := { wait := .nextStart, pc := 9, pos := s, outermost := om }
noncomputable def fG (p : Nat) (n : Int) (om : Bool) : Sre.Frame := { wait := .giveBack, pc := 11, pos := p, outermost := om, count := n }

noncomputable def dg (t : Array Nat) : Nat → Nat → Nat
  | 0, _ => 0
  | n + 1, p => if Sre.isDigit (t.getD p 0) then dg t n (p + 1) + 1 else 0
theorem dg_le (t : Array Nat) : ∀ n p, dg t n p ≤ n
  | 0, _ => Nat.le_refl _
  | n + 1, p => by unfold dg; split; · have := dg_le t n (p + 1); omega
                   · omega
theorem dg_digit (t : Array Nat) : ∀ n p q, p ≤ q → q < p + dg t n p → Sre.isDigit (t.getD q 0) = true
  | 0, p, q, h1, h2 => by simp [dg] at h2; omega
  | n + 1, p, q, h1, h2 => by
    unfold dg at h2
    split at h2
    · rename_i hd
      by_cases e : q = p
      · subst e; exact hd
      · exact dg_digit t n (p + 1) q (by omega) (by omega)
    · omega

section
variable {t : Array Nat} {st pos hd wt : Nat} {om : Bool} {F : List Sre.Frame} {sn : Sre.Seen}
theorem lit_end (h : t.size ≤ pos) : ∃ sn', (mS t st 9 pos hd om F wt none sn).step = mS t st 9 pos hd om F wt (some false) sn' := by
  apply Exists.intro
  show (if pos ≥ t.size then _ else _) = _
  rw [if_pos h]; rfl
theorem lit_yes (h : pos < t.size) (hc : t.getD pos 0 = 46) : ∃ sn', (mS t st 9 pos hd om F wt none sn).step = mS t st 11 (pos + 1) hd om F wt none sn' := by
  apply Exists.intro
  show (if pos ≥ t.size then _ else match (Except.ok (t.getD pos 0 == 46, _) : Except String (Bool × Sre.Seen)) with | .error why => _ | .ok (false, seen) => _ | .ok (true, seen) => _) = _
  rw [if_neg (by omega), hc]; rfl
theorem lit_no (h : pos < t.size) (hc : t.getD pos 0 ≠ 46) : ∃ sn', (mS t st 9 pos hd om F wt none sn).step = mS t st 9 pos hd om F wt (some false) sn' := by
  apply Exists.intro
  show (if pos ≥ t.size then _ else match (Except.ok (t.getD pos 0 == 46, _) : Except String (Bool × Sre.Seen)) with | .error why => _ | .ok (false, seen) => _ | .ok (true, seen) => _) = _
  rw [if_neg (by omega), show (t.getD pos 0 == 46) = false from by simpa using hc]; rfl

theorem acc_digit (c : Nat) (sn : Sre.Seen) : ∃ sn', Sre.accepts reCode 15 c sn = .ok (Sre.isDigit c, sn') := by
  cases h : Sre.isDigit c with
  | true =>
    apply Exists.intro
    show (do if ← (Except.ok (Sre.isDigit c) : Except String Bool).map (· != false) then _ else _ : Except String (Bool × Sre.Seen)) = _
    rw [h]; rfl
  | false =>
    apply Exists.intro
    show (do if ← (Except.ok (Sre.isDigit c) : Except String Bool).map (· != false) then _ else _ : Except String (Bool × Sre.Seen)) = _
    rw [h]; rfl
theorem run_dg : ∀ (n p f : Nat) (sn : Sre.Seen), ∃ sn', Sre.run reCode t 15 n p f sn = .ok (f + dg t n p, sn')
  | 0, p, f, sn => ⟨sn, rfl⟩
  | n + 1, p, f, sn => by
    obtain ⟨s1, h1⟩ := acc_digit (t.getD p 0) sn
    unfold Sre.run
    rw [h1]
    unfold dg
    cases h : Sre.isDigit (t.getD p 0) with
    | true =>
      obtain ⟨s2, h2⟩ := run_dg n (p + 1) (f + 1) s1
      refine ⟨s2, ?_⟩
      show Sre.run reCode t 15 n (p + 1) (f + 1) s1 = _
      rw [h2, if_pos rfl]
      congr 2
      omega
    | false => exact ⟨s1, rfl⟩

theorem rep_none (h : t.size ≤ pos) : ∃ sn', (mS t st 11 pos hd om F wt none sn).step = mS t st 11 pos hd om F wt (some false) sn' := by
  apply Exists.intro
  show (if ((1 : Nat) : Int) > (t.size : Int) - pos then _ else _) = _
  rw [if_pos (by omega)]; rfl
theorem rep_zero (h : pos < t.size) (hz : dg t (t.size - pos) pos = 0) (hb : t.size ≤ 16777216) : ∃ sn', (mS t st 11 pos hd om F wt none sn).step = mS t st 11 pos hd om F wt (some false) sn' := by
  obtain ⟨s1, h1⟩ := run_dg (t := t) (t.size - pos) pos 0 ((sn.add 24).add 13)
  rw [hz] at h1
  apply Exists.intro
  show (if ((1 : Nat) : Int) > (t.size : Int) - pos then _ else match Sre.run reCode t 15 (min 4294967295 ((t.size : Int) - pos).toNat) pos 0 ((sn.add 24).add 13) with | .error why => _ | .ok (n, seen) => _) = _
  rw [if_neg (by omega), show min 4294967295 ((t.size : Int) - pos).toNat = t.size - pos from by omega, h1]
  rfl
theorem rep_some (h : pos < t.size) (hz : 1 ≤ dg t (t.size - pos) pos) (hb : t.size ≤ 16777216) (hw : wt < 1000) :
    ∃ sn', (mS t st 11 pos hd om F wt none sn).step = mS t st 21 (pos + dg t (t.size - pos) pos) (pos + dg t (t.size - pos) pos) om (fG (pos + dg t (t.size - pos) pos) (dg t (t.size - pos) pos) om :: F) (wt + 1) none sn' := by
  obtain ⟨s1, h1⟩ := run_dg (t := t) (t.size - pos) pos 0 ((sn.add 24).add 13)
  apply Exists.intro
  show (if ((1 : Nat) : Int) > (t.size : Int) - pos then _ else match Sre.run reCode t 15 (min 4294967295 ((t.size : Int) - pos).toNat) pos 0 ((sn.add 24).add 13) with | .error why => _ | .ok (n, seen) => _) = _
  rw [if_neg (by omega), show min 4294967295 ((t.size : Int) - pos).toNat = t.size - pos from by omega, h1, Nat.zero_add]
  show (if dg t (t.size - pos) pos < 1 then _ else if wt + 1 + 0 > 16777216 then _ else _) = _
  rw [if_neg (by omega), if_neg (by omega)]
  rfl
theorem at_yes (h : pos = t.size ∨ (pos + 1 = t.size ∧ t.getD pos 0 = 10)) : ∃ sn', (mS t st 21 pos hd om F wt none sn).step = mS t st 23 pos hd om F wt none sn' := by
  apply Exists.intro
  show (if (pos == t.size || (pos + 1 == t.size && t.getD pos 0 == 10)) = true then _ else _) = _
  rw [if_pos (by simpa using h)]; rfl
theorem at_no (h : ¬(pos = t.size ∨ (pos + 1 = t.size ∧ t.getD pos 0 = 10))) : ∃ sn', (mS t st 21 pos hd om F wt none sn).step = mS t st 21 pos hd om F wt (some false) sn' := by
  apply Exists.intro
  show (if (pos == t.size || (pos + 1 == t.size && t.getD pos 0 == 10)) = true then _ else _) = _
  rw [if_neg (by simpa using h)]; rfl
theorem succ_yes : ∃ sn', (mS t st 23 pos hd om F wt none sn).step = mS t st 23 pos pos om F wt (some true) sn' := by
  apply Exists.intro
  show (if (om && ((false && _) || (false && _))) = true then _ else _) = _
  rw [if_neg (by simp)]; rfl
theorem give_yes {p : Nat} {n : Int} {o : Bool} {pc : Nat} : (mS t st pc pos hd om (fG p n o :: F) (wt + 1) (some true) sn).step = mS t st 11 p hd o F wt (some true) sn := rfl
theorem give_last {p : Nat} {o : Bool} {pc : Nat} : (mS t st pc pos hd om (fG p 1 o :: F) (wt + 1) (some false) sn).step = mS t st 11 p hd o F wt (some false) sn := rfl
theorem give_more {p n : Nat} {o : Bool} {pc : Nat} (hw : wt < 1000) : (mS t st pc pos hd om (fG p ((n + 2 : Nat) : Int) o :: F) (wt + 1) (some false) sn).step = mS t st 21 (p - 1) (p - 1) o (fG (p - 1) ((n + 1 : Nat) : Int) o :: F) (wt + 1) none sn := by
  show (if (((n + 2 : Nat) : Int) - 1) < 1 then _ else if wt + 1 + 0 > 16777216 then _ else _) = _
  rw [if_neg (by omega), if_neg (by omega)]
  have e : (((n + 2 : Nat) : Int) - 1) = ((n + 1 : Nat) : Int) := by omega
  rw [← e]; rfl
theorem next_yes {s : Nat} {o : Bool} {pc : Nat} : (mS t st pc pos hd om [fN s o] 1 (some true) sn).step = mS t st 9 s hd o [] 0 (some true) sn := rfl
theorem next_no {s : Nat} {o : Bool} {pc : Nat} (h : s < t.size) : (mS t st pc pos hd om [fN s o] 1 (some false) sn).step = mS t (s + 1) 9 (s + 1) (s + 1) false [fN (s + 1) false] 1 none sn := by
  show (if s < t.size then _ else _) = _
  rw [if_pos h]; rfl
theorem next_end {s : Nat} {o : Bool} {pc : Nat} (h : ¬ s < t.size) : (mS t st pc pos hd om [fN s o] 1 (some false) sn).step = mS t st 9 s hd o [] 0 (some false) sn := by
  show (if s < t.size then _ else _) = _
  rw [if_neg h]; rfl
theorem over {b : Bool} {pc : Nat} : (mS t st pc pos hd om [] wt (some b) sn).step.outcome = some (if b then .matched else .failed) := rfl
end
end Mine
namespace Mine
open PySem PySem.Sre

noncomputable def Runs (k : Nat) (m m' : Sre.M) : Prop := ∀ j, Sre.M.runFor (k + j) m = Sre.M.runFor j m'
theorem Runs.refl (m : Sre.M) : Runs 0 m m := fun j => by rw [Nat.zero_add]
theorem Runs.trans {a b : Nat} {m m' m'' : Sre.M} (x : Runs a m m') (y : Runs b m' m'') : Runs (a + b) m m'' := fun j => by rw [Nat.add_assoc, x, y]
theorem Runs.one {m m' : Sre.M} (h : m.outcome = none) (e : m.step = m') : Runs 1 m m' := fun j => by
  rw [Nat.add_comm]
  show (if m.outcome.isSome = true then _ else _) = _
  rw [h, e]; rfl

/-- the try at one place comes to an answer -/
noncomputable def Ends (B : Nat) (m : Sre.M) (t : Array Nat) (st : Nat) (F : List Sre.Frame) (wt : Nat) (b : Bool) : Prop := ∃ k, k ≤ B ∧ ∃ pc pos hd om sn, Runs k m (mS t st pc pos hd om F wt (some b) sn)
theorem Ends.step {B : Nat} {m m' : Sre.M} {t : Array Nat} {st : Nat} {F : List Sre.Frame} {wt : Nat} {b : Bool} (h : m.outcome = none) (e : m.step = m') (x : Ends B m' t st F wt b) : Ends (B + 1) m t st F wt b := by
  obtain ⟨k, hk, pc, pos, hd, om, sn, r⟩ := x
  exact ⟨1 + k, by omega, pc, pos, hd, om, sn, (Runs.one h e).trans r⟩
theorem Ends.here {B : Nat} {t : Array Nat} {st pc pos hd : Nat} {om : Bool} {sn : Sre.Seen} {F : List Sre.Frame} {wt : Nat} {b : Bool} : Ends B (mS t st pc pos hd om F wt (some b) sn) t st F wt b := ⟨0, Nat.zero_le _, pc, pos, hd, om, sn, .refl _⟩
theorem Ends.le {B B' : Nat} {m : Sre.M} {t : Array Nat} {st : Nat} {F : List Sre.Frame} {wt : Nat} {b : Bool} (x : Ends B m t st F wt b) (h : B ≤ B') : Ends B' m t st F wt b := by
  obtain ⟨k, hk, r⟩ := x; exact ⟨k, by omega, r⟩

theorem digit_not10 {c : Nat} (h : Sre.isDigit c = true) : c ≠ 10 := by
  intro e; subst e; simp [Sre.isDigit] at h

theorem give_back {t : Array Nat} {st wt : Nat} {F : List Sre.Frame} (hw : wt < 1000) : ∀ (n p pc pos hd : Nat) (om o : Bool) (sn : Sre.Seen), n + 1 ≤ p → p ≤ t.size → (∀ q, p - (n + 1) ≤ q → q < p → Sre.isDigit (t.getD q 0) = true) →
    Ends (2 * n + 1) (mS t st pc pos hd om (fG p ((n + 1 : Nat) : Int) o :: F) (wt + 1) (some false) sn) t st F wt false
  | 0, p, pc, pos, hd, om, o, sn, _, _, _ => .step (B := 0) rfl give_last .here
  | n + 1, p, pc, pos, hd, om, o, sn, h1, h2, h3 => by
    refine .le (.step (B := 2 * n + 2) rfl (give_more hw) ?_) (by omega)
    have hd9 := h3 (p - 1) (by omega) (by omega)
    obtain ⟨sn', e⟩ := at_no (t := t) (st := st) (pos := p - 1) (hd := p - 1) (om := o) (F := fG (p - 1) ((n + 1 : Nat) : Int) o :: F) (wt := wt + 1) (sn := sn) (by
      rintro (q | ⟨_, q⟩)
      · omega
      · exact digit_not10 hd9 q)
    exact .step (B := 2 * n + 1) rfl e (give_back hw n (p - 1) _ _ _ _ _ _ (by omega) (by omega) fun q q1 q2 => h3 q (by omega) (by omega))

/-- does the pattern stand at a place? -/
noncomputable def hitAt (t : Array Nat) (s : Nat) : Bool :=
  decide (s < t.size) && t.getD s 0 == 46 && decide (1 ≤ dg t (t.size - (s + 1)) (s + 1)) &&
    (s + 1 + dg t (t.size - (s + 1)) (s + 1) == t.size || (s + 1 + dg t (t.size - (s + 1)) (s + 1) + 1 == t.size && t.getD (s + 1 + dg t (t.size - (s + 1)) (s + 1)) 0 == 10))

theorem try_at {t : Array Nat} {s : Nat} {o : Bool} {sn : Sre.Seen} (hb : t.size ≤ 16777216) : Ends (2 * t.size + 8) (mS t s 9 s s o [fN s o] 1 none sn) t s [fN s o] 1 (hitAt t s) := by
  by_cases h1 : s < t.size
  · by_cases h2 : t.getD s 0 = 46
    · obtain ⟨s1, e1⟩ := lit_yes (st := s) (hd := s) (om := o) (F := [fN s o]) (wt := 1) (sn := sn) h1 h2
      refine .le (.step (B := 2 * t.size + 7) rfl e1 ?_) (by omega)
      by_cases h3 : s + 1 < t.size
      · by_cases h4 : dg t (t.size - (s + 1)) (s + 1) = 0
        · obtain ⟨s2, e2⟩ := rep_zero (st := s) (hd := s) (om := o) (F := [fN s o]) (wt := 1) (sn := s1) h3 h4 hb
          rw [show hitAt t s = false from by simp [hitAt, h4]]
          exact .le (.step (B := 0) rfl e2 .here) (by omega)
        · obtain ⟨s2, e2⟩ := rep_some (st := s) (hd := s) (om := o) (F := [fN s o]) (wt := 1) (sn := s1) h3 (by omega) hb (by omega)
          have hle := dg_le t (t.size - (s + 1)) (s + 1)
          refine .le (.step (B := 2 * t.size + 6) rfl e2 ?_) (by omega)
          by_cases h5 : s + 1 + dg t (t.size - (s + 1)) (s + 1) = t.size ∨ (s + 1 + dg t (t.size - (s + 1)) (s + 1) + 1 = t.size ∧ t.getD (s + 1 + dg t (t.size - (s + 1)) (s + 1)) 0 = 10)
          · rw [show hitAt t s = true from by simp only [hitAt, Bool.and_eq_true, decide_eq_true_eq, beq_iff_eq, Bool.or_eq_true]; exact ⟨⟨⟨h1, h2⟩, by omega⟩, h5⟩]
            obtain ⟨s3, e3⟩ := at_yes (t := t) (st := s) (hd := s + 1 + dg t (t.size - (s + 1)) (s + 1)) (om := o) (F := fG (s + 1 + dg t (t.size - (s + 1)) (s + 1)) (dg t (t.size - (s + 1)) (s + 1)) o :: [fN s o]) (wt := 2) (sn := s2) h5
            obtain ⟨s4, e4⟩ := succ_yes (t := t) (st := s) (pos := s + 1 + dg t (t.size - (s + 1)) (s + 1)) (hd := s + 1 + dg t (t.size - (s + 1)) (s + 1)) (om := o) (F := fG (s + 1 + dg t (t.size - (s + 1)) (s + 1)) (dg t (t.size - (s + 1)) (s + 1)) o :: [fN s o]) (wt := 2) (sn := s3)
            exact .le (.step rfl e3 (.step rfl e4 (.step (B := 0) rfl give_yes .here))) (by omega)
          · rw [show hitAt t s = false from by
              cases hh : hitAt t s with
              | false => rfl
              | true => simp only [hitAt, Bool.and_eq_true, decide_eq_true_eq, beq_iff_eq, Bool.or_eq_true] at hh; exact absurd hh.2 h5]
            obtain ⟨s3, e3⟩ := at_no (t := t) (st := s) (hd := s + 1 + dg t (t.size - (s + 1)) (s + 1)) (om := o) (F := fG (s + 1 + dg t (t.size - (s + 1)) (s + 1)) (dg t (t.size - (s + 1)) (s + 1)) o :: [fN s o]) (wt := 2) (sn := s2) h5
            refine .le (.step (B := 2 * t.size + 5) rfl e3 ?_) (by omega)
            obtain ⟨n, hn⟩ : ∃ n, dg t (t.size - (s + 1)) (s + 1) = n + 1 := ⟨_, (Nat.succ_pred_eq_of_pos (by omega)).symm⟩
            have hdig := dg_digit t (t.size - (s + 1)) (s + 1)
            rw [hn] at hdig hle ⊢
            exact .le (give_back (by omega) n (s + 1 + (n + 1)) _ _ _ _ _ _ (by omega) (by omega) fun q q1 q2 => hdig q (by omega) q2) (by omega)
      · obtain ⟨s2, e2⟩ := rep_none (t := t) (st := s) (pos := s + 1) (hd := s) (om := o) (F := [fN s o]) (wt := 1) (sn := s1) (by omega)
        rw [show hitAt t s = false from by simp [hitAt, show t.size - (s + 1) = 0 from by omega, dg]]
        exact .le (.step (B := 0) rfl e2 .here) (by omega)
    · obtain ⟨s1, e1⟩ := lit_no (st := s) (hd := s) (om := o) (F := [fN s o]) (wt := 1) (sn := sn) h1 h2
      rw [show hitAt t s = false from by unfold hitAt; rw [show (t.getD s 0 == 46) = false from by simpa using h2]; simp]
      exact .le (.step (B := 0) rfl e1 .here) (by omega)
  · obtain ⟨s1, e1⟩ := lit_end (t := t) (st := s) (pos := s) (hd := s) (om := o) (F := [fN s o]) (wt := 1) (sn := sn) (by omega)
    rw [show hitAt t s = false from by simp [hitAt, h1]]
    exact .le (.step (B := 0) rfl e1 .here) (by omega)

noncomputable def hitFrom (t : Array Nat) : Nat → Nat → Bool
  | 0, _ => false
  | n + 1, s => hitAt t s || hitFrom t n (s + 1)
/-- does the pattern stand anywhere? -/
noncomputable def hits (t : Array Nat) : Bool := hitFrom t (t.size + 1) 0

theorem search_from {t : Array Nat} (hb : t.size ≤ 16777216) : ∀ (n s : Nat) (o : Bool) (sn : Sre.Seen), s + n = t.size → ∃ k, k ≤ (n + 1) * (2 * t.size + 12) ∧ (Sre.M.runFor k (mS t s 9 s s o [fN s o] 1 none sn)).outcome = some (if hitFrom t (n + 1) s then .matched else .failed)
  | n, s, o, sn, hs => by
    obtain ⟨k, hk, pc, pos, hd, om, sn', r⟩ := try_at (s := s) (o := o) (sn := sn) hb
    cases hh : hitAt t s with
    | true =>
      rw [hh] at r
      have r2 := r.trans (Runs.one rfl next_yes)
      refine ⟨k + 1 + 1, ?_, ?_⟩
      · have : 2 * t.size + 12 ≤ (n + 1) * (2 * t.size + 12) := Nat.le_mul_of_pos_left _ (by omega)
        omega
      · rw [r2 1]
        show (Sre.M.step _).outcome = _
        rw [over]
        simp [hitFrom, hh]
    | false =>
      rw [hh] at r
      cases n with
      | zero =>
        have r2 := r.trans (Runs.one rfl (next_end (by omega)))
        refine ⟨k + 1 + 1, by omega, ?_⟩
        rw [r2 1]
        show (Sre.M.step _).outcome = _
        rw [over]
        simp [hitFrom, hh]
      | succ n =>
        have r2 := r.trans (Runs.one rfl (next_no (by omega)))
        obtain ⟨k2, hk2, e⟩ := search_from hb n (s + 1) false sn' (by omega)
        refine ⟨k + 1 + k2, ?_, ?_⟩
        · rw [Nat.add_mul (n + 1) 1]; omega
        · rw [r2 k2, e, show hitFrom t (n + 1 + 1) s = (hitAt t s || hitFrom t (n + 1) (s + 1)) from rfl, hh, Bool.false_or]
theorem search_all (t : Array Nat) (hb : t.size ≤ 16777216) : ∃ k, k ≤ 2 ^ 60 ∧ (Sre.M.runFor k (Sre.forSearch reCode t 0 0 t.size false)).outcome = some (if hits t then .matched else .failed) := by
  by_cases h : t.size < 2
  · refine ⟨1, by decide, ?_⟩
    have e : Sre.forSearch reCode t 0 0 t.size false = if (0 > t.size || t.size - 0 < 2) = true then _ else _ := rfl
    rw [if_pos (by simp; omega)] at e
    rw [e]
    have hno : hits t = false := by
      have : ∀ n s, hitFrom t n s = false := fun n => by
        induction n with
        | zero => intro s; rfl
        | succ n ih =>
          intro s
          rw [hitFrom, ih, Bool.or_false]
          have : dg t (t.size - (s + 1)) (s + 1) = 0 := by
            have := dg_le t (t.size - (s + 1)) (s + 1)
            by_cases q : t.size - (s + 1) = 0
            · omega
            · omega
          simp [hitAt, this]
      exact this _ _
    rw [hno]; rfl
  · obtain ⟨k, hk, e⟩ := search_from hb t.size 0 true (({} : Sre.Seen).add 14) (by omega)
    refine ⟨k, ?_, ?_⟩
    · have : (t.size + 1) * (2 * t.size + 12) ≤ (16777216 + 1) * (2 * 16777216 + 12) := Nat.mul_le_mul (by omega) (by omega)
      exact Nat.le_trans hk (Nat.le_trans this (by decide))
    · have e2 : Sre.forSearch reCode t 0 0 t.size false = if (0 > t.size || t.size - 0 < 2) = true then _ else mS t 0 9 0 0 true [fN 0 true] 1 none (({} : Sre.Seen).add 14) := rfl
      rw [e2, if_neg (by simp; omega), e]; rfl
end Mine
namespace Mine
open PySem PySem.SeqAt PyProof.Rows PySem.Calls

theorem rePlain : PlainAttrs "re.Pattern" :=
  ⟨⟨"object.__getattribute__", by rw [typeLookup_type, builtinLookup_eq_fast]; kernel_rfl, by decide +kernel⟩, by rw [typeLookup_type, builtinLookup_eq_fast]; kernel_rfl⟩
theorem reSlot : PySem.Slot "re.Pattern" "search" "re.Pattern.search" :=
  .of (owner := "re.Pattern") (n := "search") (by rw [typeLookup_type, builtinLookup_eq_fast]; kernel_rfl) (by decide +kernel) (by decide +kernel) (by decide +kernel)
    (by first | exact .inl (by decide +kernel) | exact .inr (by decide +kernel)) (by rw [isSubtype_type]; kernel_rfl)
theorem reType : typeOf (.builtin "re.Pattern.search") = pure (.type "method_descriptor") := by show builtinType _ = _; rw [builtinType_eq_fast]; kernel_rfl
theorem reEntry : entryFor table "re.Pattern.search" = some Builtin.«re.Pattern.search» := entryFor_of_tree (by kernel_rfl)
theorem reOwner : Manifest.owners.lookup (String.ofList ['n', 'r', 'e', 't', 't', 'a', 'P', '.', 'e', 'r'].reverse) = some Manifest.sig_re_Pattern := by kernel_rfl
theorem reArgs (a b : Value) : argsOk "re.Pattern.search" ⟨[a, b], []⟩ := by
  unfold argsOk; rw [signature?_of (id := "re.Pattern.search") (n := ['h', 'c', 'r', 'a', 'e', 's']) (o := ['n', 'r', 'e', 't', 't', 'a', 'P', '.', 'e', 'r']) (by kernel_rfl) reOwner]; kernel_rfl
theorem mBool : typeLookup (.type "re.Match") "__bool__" = pure none := by rw [typeLookup_type, builtinLookup_eq_fast]; kernel_rfl
theorem mLen : typeLookup (.type "re.Match") "__len__" = pure none := by rw [typeLookup_type, builtinLookup_eq_fast]; kernel_rfl

section
variable {prog : Program} {w : World} {A : Around} {E : Value → Shared → Prop} {s : Shared}

theorem drive (turns : Nat) : ∀ (k : Nat) (m : Sre.M) (o : Sre.Outcome) (Q : Sre.M → Shared → Prop), k < 4 * turns → (Sre.M.runFor k m).outcome = some o → (∀ m', m'.outcome = some o → Q m' s) → wpAny (model prog w) A (Builtin.Re.reDrive turns m) Q E s := by
  induction turns with
  | zero => intro k m o Q hk; omega
  | succ turns ih =>
    intro k m o Q hk he hQ
    show wpAny _ _ (if (m.runFor 4).outcome.isSome = true then pure (m.runFor 4) else do rule "sre.turn"; Builtin.Re.reDrive turns (m.runFor 4)) _ _ _
    have stay : ∀ (j : Nat) (m : Sre.M), m.outcome.isSome = true → m.runFor j = m := fun j m h => by
      cases j with
      | zero => rfl
      | succ j => show (if m.outcome.isSome = true then m else _) = m; rw [if_pos h]
    have split : ∀ (a b : Nat) (m : Sre.M), (m.runFor a).runFor b = m.runFor (a + b) := fun a => by
      induction a with
      | zero => intro b m; rw [Nat.zero_add]; rfl
      | succ a ia =>
        intro b m
        rw [show a + 1 + b = (a + b) + 1 from by omega]
        show Sre.M.runFor b (if m.outcome.isSome = true then m else Sre.M.runFor a m.step) = if m.outcome.isSome = true then m else Sre.M.runFor (a + b) m.step
        split
        · rename_i h; exact stay b m h
        · exact ia b m.step
    split
    · rename_i h
      refine wpAny_pure (hQ _ ?_)
      by_cases hk4 : k ≤ 4
      · rw [show (4 : Nat) = k + (4 - k) from by omega, ← split, stay _ _ (by rw [he]; rfl)]; exact he
      · rw [show k = 4 + (k - 4) from by omega, ← split, stay _ _ h] at he; exact he
    · rename_i h
      have hk4 : 4 < k := by
        refine Nat.lt_of_not_le fun q => h ?_
        rw [show (4 : Nat) = k + (4 - k) from by omega, ← split, stay _ _ (by rw [he]; rfl), he]; rfl
      refine wpAny_bind (wpAny_rule (ih (k - 4) _ o Q (by omega) ?_ hQ))
      rw [split, show 4 + (k - 4) = k from by omega]; exact he

theorem rules_loop {Q : PUnit → Shared → Prop} {f : Nat → PUnit → Sem (ForInStep PUnit)} (c : Nat → Bool) (nm : Nat → String) (hf : ∀ i u, f i u = if c i = true then (do rule (nm i); pure (ForInStep.yield PUnit.unit)) else pure (ForInStep.yield PUnit.unit)) (h : Q ⟨⟩ s) :
    ∀ (l : List Nat), wpAny (model prog w) A (forIn l PUnit.unit f) Q E s
  | [] => by rw [List.forIn_nil]; exact wpAny_pure h
  | i :: r => by
    rw [List.forIn_cons, hf]
    refine wpAny_bind ?_
    split
    · exact wpAny_bind (wpAny_rule (wpAny_pure (rules_loop c nm hf h r)))
    · exact wpAny_pure (rules_loop c nm hf h r)

theorem run_end {m : Sre.M} {k : Nat} {b : Bool} {Q : Option Sre.M → Shared → Prop} (hk : k ≤ 2 ^ 60) (he : (Sre.M.runFor k m).outcome = some (if b then .matched else .failed)) (hQ : ∀ m', Q (if b then some m' else none) s) :
    wpAny (model prog w) A (Builtin.Re.reRunToEnd m) Q E s := by
  unfold Builtin.Re.reRunToEnd
  refine wpAny_bind (drive (2 ^ 64) k m _ _ (by omega) he fun m' hm => wpAny_bind (rules_loop (fun i => m'.seen.has i) (fun i => Sre.names.getD i "") (fun i u => by split <;> rfl) ?_ _))
  show wpAny _ _ (match m'.outcome with | some .matched => _ | some .failed => _ | some (.stuck why) => _ | none => _) _ _ _
  rw [hm]
  cases b with
  | true => exact wpAny_pure (hQ m')
  | false => exact wpAny_pure (hQ m')
end
end Mine
namespace Mine
open PySem PySem.SeqAt PyProof.Rows PySem.Calls

noncomputable def reVals : Array Value := #[.int 14 0, .int 8 0, .int 1 0, .int 2 0, .int 4294967295 0, .int 1 0, .int 1 0, .int 46 0, .int 0 0, .int 16 0, .int 46 0, .int 24 0, .int 9 0, .int 1 0, .int 4294967295 0, .int 13 0, .int 4 0, .int 8 0, .int 0 0, .int 0 0, .int 1 0, .int 6 0, .int 5 0, .int 1 0]
/-- the pattern as it lies at the module's top -/
structure Pat (h : Heap) (p : Addr) : Prop where
  ex : ∃ (q : Addr) (oq : Obj) (n : Nat) (x : Str) (t u : Tok) (fl : Int), h.get? p = some { cls := .type "re.Pattern", dict := none, data := .fields #[.str x t, .int fl u, .int 0 0, .none, .none, .ref q, .int 0 0], slots := #[] } ∧
    h.get? q = some oq ∧ oq.data = .seq reVals n
theorem Pat.kp {h h' : Heap} {p : Addr} (x : Pat h p) (k : KP h h') : Pat h' p := by
  obtain ⟨q, oq, n, y, t, u, fl, h1, h2, h3⟩ := x.ex
  exact ⟨q, oq, n, y, t, u, fl, k _ _ h1, k _ _ h2, h3⟩

section
variable {prog : Program} {w : World} {A : Around} {E : Value → Shared → Prop} {s : Shared} {p : Addr} {y : Str} {t : Tok}

theorem vals_code : (reVals.map Builtin.Re.reRawOf).map (·.toNat) = reCode := by decide +kernel

theorem named_one (v : Value) : Builtin.Re.reNamed "re.Pattern.search" "search" ["string", "pos", "endpos"] 1 [v] [] = pure [some v, none, none] := by rfl

/-- search gives a match or none -/
theorem search_body {Q : Value → Shared → Prop} (H : Pat s.heap p) (hz : y.length ≤ 16777216) (hQ : ∀ v s', Go s s' → (hits y.cps = true → s'.TypeIs v "re.Match" ∧ ∃ a, v = .ref a) → (hits y.cps = false → v = .none) → Q v s') :
    wpAny (model prog w) A (Builtin.«re.Pattern.search» ⟨[.ref p, .str y t], []⟩) (fun fin s' => ∃ v, fin = .done (.ret v) ∧ Q v s') E s := by
  obtain ⟨q, oq, n, x, tx, u, fl, h1, h2, h3⟩ := H.ex
  unfold Builtin.«re.Pattern.search»
  have hT : wpAny (model prog w) A (Builtin.Re.reTarget "re.Pattern.search" "search" ⟨[.ref p, .str y t], []⟩) (fun r s' => s' = s ∧ r = { pattern := .ref p, string := .str y t, code := reCode, text := y.cps, kind := 0, groups := 0, pos := 0, lim := y.cps.size }) E s := by
    unfold Builtin.Re.reTarget
    refine wpAny_bind (wpAny_of_eq (named_one _) ?_)
    refine wpAny_bind (wpAny_pure ?_)
    refine wpAny_bind (wpAny_pure ?_)
    refine wpAny_bind (wpAny_fieldsOf h1 rfl ?_)
    refine wpAny_bind (m := Builtin.Re.reTextOf (.str y t)) (wpAny_pure ?_)
    refine wpAny_bind (m := Builtin.Re.reNoCollectionInside (.str y t) 0) (wpAny_pure ?_)
    refine wpAny_bind (m := Builtin.Re.reRawItems (.ref q)) (wpAny_bind (wpAny_seqItems h2 h3 (wpAny_pure (wpAny_pure ⟨rfl, ?_⟩))))
    have hl : min ((2 ^ 63 - 1 : Int)).toNat y.cps.size = y.cps.size := Nat.min_eq_right (Nat.le_trans hz (by decide))
    show Builtin.Re.ReTarget.mk (.ref p) (.str y t) ((reVals.map Builtin.Re.reRawOf).map (·.toNat)) y.cps 0 0 (min (0 : Int).toNat y.cps.size) (min ((2 ^ 63 - 1 : Int)).toNat y.cps.size) = _
    rw [hl, vals_code, show min (0 : Int).toNat y.cps.size = 0 from Nat.zero_min _]
  refine wpAny_bind (wpAny_mono hT (fun r s' h => ?_) fun _ _ e => e)
  obtain ⟨rfl, rfl⟩ := h
  obtain ⟨k, hk, he⟩ := search_all y.cps hz
  unfold Builtin.Re.reAnswer
  refine wpAny_bind (run_end hk he fun m' => ?_)
  cases hh : hits y.cps with
  | false => exact wpAny_pure ⟨.none, rfl, hQ _ _ (Go.refl _) (fun e => by rw [hh] at e; cases e) fun _ => rfl⟩
  | true =>
    refine wpAny_bind ?_
    unfold Builtin.Re.reNewMatch
    show wpAny (model prog w) A (do
      let tp ← newTuple [rawInt m'.start, rawInt m'.handed]
      newFields "re.Match" [.str y t, .ref p, rawInt (0 : Nat), rawInt y.cps.size, rawInt m'.lastindex, tp]) _ _ _
    refine wpAny_bind (wpAny_newTuple ?_ (by show (2 : Nat) ≤ sizeLine; rw [sizeL]; decide))
    refine wpAny_newObj_type ?_
    refine wpAny_pure ⟨_, rfl, hQ _ _ ?_ (fun _ => ⟨⟨_, Heap.get?_push_size _ rfl, rfl⟩, _, rfl⟩) fun e => by rw [hh] at e; cases e⟩
    exact ⟨_, _, rfl, fun b o e => Heap.get?_push_of_some _ (Heap.get?_push_of_some _ e)⟩

theorem truthy_match {a : Addr} {Q : Bool → Shared → Prop} (hT : s.TypeIs (.ref a) "re.Match") (hQ : Q true s) : wpAny (model prog w) A (truthy (.ref a)) Q E s := by
  unfold truthy
  refine wpAny_bind (wpAny_callSpecial?_none hT mBool ?_)
  refine wpAny_bind (wpAny_specialOf hT mLen ?_)
  exact wpAny_pure hQ

noncomputable def ipv4 (y : Str) : Bool := hits y.cps

theorem search_is {c : Cx} {te e : Expr} (hs : search? c te = some e) : ∃ pr ap pos, te = .Call (.Attribute (.Name "IPV4_RE" pr) "search" ap) [e] [] pos ∧ c.glob "IPV4_RE" = true ∧ (ap.endLine == pos.line) = true := by
  cases te with
  | Call f args kws pos => cases kws with
    | nil => cases f with
      | Attribute o m ap =>
        obtain ⟨r, pr, ho, h1⟩ := onName_is hs
        obtain ⟨e', ha, h2⟩ := on1_is h1
        obtain ⟨hok, he⟩ := itd h2
        simp only [Bool.and_eq_true, decide_eq_true_eq] at hok
        obtain ⟨⟨⟨⟨k1, k2⟩, hg⟩, _⟩, hl⟩ := hok
        subst ho ha he k1 k2
        exact ⟨pr, ap, pos, rfl, hg, hl⟩
      | _ => exact no hs
    | cons _ _ => exact no hs
  | _ => exact no hs
theorem search_ok {mg mb : Str → Option Value} {h₀ : Heap} {lv : Nat} {fns : List Str} {Φ : List (List D → Option D)} (T : Tied prog w mg mb h₀ lv fns Φ) (hm : mg "IPV4_RE" = some (.ref p)) (H : Pat h₀ p) : ∀ n, SR prog w h₀ lv fns Φ ipv4 n := by
  intro n A E c env te e x s O σ y Hh hs c1 hv
  obtain ⟨pr, ap, pos, rfl, hg, hl⟩ := search_is hs
  show wpAny (model prog w) A (do let v ← eval (.Call (.Attribute (.Name "IPV4_RE" pr) "search" ap) [e] [] pos) env; standAt _; holding [v] (truthy v)) _ _ _
  refine wpAny_bind (Call_method1 name_base (cE_plain c1 []) hl ?_)
  refine s_glob T.base Hh.eo Hh.kp hg hm ?_
  have Hs := H.kp Hh.kp
  obtain ⟨q, oq, k, x', tx, u, fl, h1, h2, h3⟩ := Hs.ex
  refine ⟨"re.Pattern", "re.Pattern.search", rePlain, reSlot, reType, ⟨_, h1, rfl⟩, (fun b e => ⟨_, by cases e; exact h1, rfl⟩), ?_⟩
  refine Calls.callWith_builtin rfl (Calls.evalArgs_plain (Calls.spliced_cons (wpAny_mono (tE T n A E c env e x s O σ _ Hh c1 hv) (fun v s₁ h₁ => Calls.spliced_nil ?_) fun _ _ e => e)))
  obtain ⟨g, ⟨f1, r1, _⟩, _⟩ := h₁
  cases r1 with
  | str _ ty hz =>
    refine wpAny_call_entry reSlot ⟨_, g.kp _ _ h1, rfl⟩ reEntry (search_body (Hs.kp g.kp) hz fun v s₂ g2 hy hn => ?_) (reArgs _ _)
    refine wpAny_bind (wpAny_standAt (wpAny_holding ?_))
    cases hh : hits y.cps with
    | true =>
      obtain ⟨hT, a, rfl⟩ := hy hh
      exact truthy_match hT ⟨hh.symm, g.trans g2⟩
    | false =>
      rw [hn hh]
      exact wpAny_pure ⟨hh.symm, g.trans g2⟩
end
end Mine
namespace Mine
open PySem PySem.SeqAt PyProof.Rows PySem.Calls PySem.W

theorem dataOfInts {P : Params} {h : Heap} : ∀ {vs : List Value} {xs : List WData}, WellAll P h vs xs → WShape.hasItems [] xs .int = true → ∃ is : List Int, xs = is.map .int ∧ Rds h vs (is.map .int) []
  | _, _, .nil, _ => ⟨[], rfl, .nil⟩
  | _, _, .cons (d := d) hv hr, hs => by
    replace hs := an hs
    obtain ⟨is, e, r⟩ := dataOfInts hr hs.2
    cases hv with
    | int i t => exact ⟨i :: is, by rw [e]; rfl, .cons (fp := []) (.int i t) r⟩
    | _ => exact noB hs.1

theorem callerRm {k : Nat} (hk : k ≤ 600) : Rm k callerA := ⟨rfl, by show 301 + k < 1000; omega, by show 4 + 16 * k + 100 < 9900; omega⟩

end Mine
namespace Mine
open PySem PySem.SeqAt PyProof.Rows PySem.Calls PySem.W

theorem ns_val {h : Heap} {a : Addr} {m : Str → Option Value} {o : Obj} {es : Array DictEntry} {n : Nat} (hn : h.Ns a m) (ho : h.get? a = some o) (hd : o.data = .dict es n) (x : Str) : m x = nsFind es x := by
  obtain ⟨o', es', ep, h1, h2, _, h4⟩ := hn
  rw [ho] at h1; cases h1
  rw [hd] at h2; cases h2
  exact (h4 x).symm

section
variable {prog : Program} {w : World} {mg mb : Str → Option Value} {h₀ : Heap} {lv : Nat} {fns : List Str} {Φ : List (List D → Option D)} {W : Nat} {p : Addr}

theorem len1 {α : Type} {l : List α} (h : l.length = 1) : ∃ a, l = [a] := List.length_eq_one_iff.mp h
theorem len2 {α : Type} {l : List α} (h : l.length = 2) : ∃ a b, l = [a, b] := by
  cases l with
  | nil => cases h
  | cons a l => obtain ⟨b, rfl⟩ := len1 (Nat.succ.inj h); exact ⟨a, b, rfl⟩
/-- a def's facts, decided once -/
structure DefIs (q : Program) (name : Str) (fns : List Str) (d : DefRec) (S : S) (k ar : Nat) : Prop where
  is : PySem.W.defOf q name = some (d, [])
  nodef : d.params.defaults = []
  comp : cF fns d.params d.body d.scope = some (S, k, ar)
  bind : ∀ pm code doc vals, vals.length = ar → bindArgs (docDef d.name d.params d.body d.scope pm code doc) ⟨vals, []⟩ = pure ((d.params.args.map (·.arg)).zip vals)

theorem tied_add {name : Str} {g : List D → Option D} (T : Tied prog w mg mb h₀ lv fns Φ) (hl : Φ.length = fns.length) (C : CallOk prog w mg h₀ (lv + 61) name g) : Tied prog w mg mb h₀ (lv + 61) (fns ++ [name]) (Φ ++ [g]) := by
  refine ⟨T.base, fun x hx hc => T.free x hx ?_, fun i f g' h1 h2 => ?_⟩
  · simp only [List.contains_eq_mem, List.mem_append, decide_eq_false_iff_not, not_or] at hc ⊢
    exact hc.1
  · by_cases hi : i < fns.length
    · rw [List.getElem?_append_left hi] at h1
      rw [List.getElem?_append_left (by omega)] at h2
      exact (T.fn i f g' h1 h2).up (by omega)
    · rw [List.getElem?_append_right (by omega)] at h1
      rw [List.getElem?_append_right (by omega), hl] at h2
      have hz : i - fns.length = 0 := by
        obtain ⟨q, _⟩ := List.getElem?_eq_some_iff.mp h1
        simp at q; omega
      rw [hz] at h1 h2
      cases h1; cases h2
      exact C
end
end Mine
set_option maxHeartbeats 1000000
namespace Mine
open PySem PySem.SeqAt PyProof.Rows PySem.Calls

/-! sorting by keys: any order that the keys allow -/
theorem paired_perm {α β : Type} {R : α → β → Prop} {xs ys : List α} (h : ys.Perm xs) : ∀ {ds : List β}, PySem.Paired R xs ds → ∃ es, es.Perm ds ∧ PySem.Paired R ys es := by
  induction h with
  | nil => intro ds h; exact ⟨ds, .refl _, h⟩
  | cons x _ ih =>
    intro ds h
    cases h with
    | cons h1 h2 =>
      obtain ⟨es, p, q⟩ := ih h2
      exact ⟨_, .cons _ p, .cons h1 q⟩
  | swap x y l =>
    intro ds h
    cases h with
    | cons h1 h2 => cases h2 with
      | cons h3 h4 => exact ⟨_, .swap .., .cons h3 (.cons h1 h4)⟩
  | trans _ _ ih1 ih2 =>
    intro ds h
    obtain ⟨es, p, q⟩ := ih2 h
    obtain ⟨fs, p', q'⟩ := ih1 q
    exact ⟨fs, p'.trans p, q'⟩
theorem paired_mem {α β : Type} {R : α → β → Prop} {xs : List α} {ds : List β} (h : PySem.Paired R xs ds) : ∀ x ∈ xs, ∃ d ∈ ds, R x d := by
  induction h with
  | nil => intro x hx; cases hx
  | cons h1 _ ih =>
    intro x hx
    rcases List.mem_cons.mp hx with rfl | hx
    · exact ⟨_, List.mem_cons_self .., h1⟩
    · obtain ⟨d, hd, hr⟩ := ih x hx
      exact ⟨d, List.mem_cons_of_mem _ hd, hr⟩
theorem paired_at {α β : Type} {R : α → β → Prop} {xs : List α} {ds : List β} (h : PySem.Paired R xs ds) : ∀ {i : Nat} {d : β}, ds[i]? = some d → ∃ x, xs[i]? = some x ∧ R x d := by
  induction h with
  | nil => intro i d e; simp at e
  | cons h1 _ ih =>
    intro i d e
    cases i with
    | zero => cases e; exact ⟨_, rfl, h1⟩
    | succ i => exact ih e
theorem paired_zip {α β γ δ : Type} {R : α → β → Prop} {R' : γ → δ → Prop} {xs : List α} {ds : List β} (h : PySem.Paired R xs ds) : ∀ {ys : List γ} {es : List δ}, PySem.Paired R' ys es → PySem.Paired (fun p q => R p.1 q.1 ∧ R' p.2 q.2) (xs.zip ys) (ds.zip es) := by
  induction h with
  | nil => intro ys es _; exact .nil
  | cons h1 _ ih =>
    intro ys es h'
    cases h' with
    | nil => exact .nil
    | cons h3 h4 => exact .cons ⟨h1, h3⟩ (ih h4)
theorem Rds.paired {h : Heap} {fp : List Addr} : ∀ (vs : List Value) {ds : List D} {fq : List Addr}, Rds h vs ds fq → (∀ b ∈ fq, b ∈ fp) → PySem.Paired (fun v d => ∃ f, Rd h v d f ∧ ∀ b ∈ f, b ∈ fp) vs ds
  | [], _, _, r, _ => by cases r; exact .nil
  | v :: vs, _, _, r, k => by
    cases r with
    | cons a b => exact .cons ⟨_, a, fun c hc => k c (List.mem_append_left _ hc)⟩ (Rds.paired vs b fun c hc => k c (List.mem_append_right _ hc))
theorem paired_rds {h : Heap} {fp : List Addr} {vs : List Value} {ds : List D} (hp : PySem.Paired (fun v d => ∃ f, Rd h v d f ∧ ∀ b ∈ f, b ∈ fp) vs ds) : ∃ fq, Rds h vs ds fq ∧ ∀ b ∈ fq, b ∈ fp := by
  induction hp with
  | nil => exact ⟨[], .nil, fun _ hb => nomatch hb⟩
  | cons h1 _ ih =>
    obtain ⟨f, r, k⟩ := h1
    obtain ⟨fq, r2, k2⟩ := ih
    refine ⟨_, .cons r r2, fun b hb => ?_⟩
    rcases List.mem_append.mp hb with hb | hb
    · exact k b hb
    · exact k2 b hb
theorem paired_map {α β γ δ : Type} {R : α → β → Prop} {R' : γ → δ → Prop} {f : α → γ} {g : β → δ} (h : ∀ a b, R a b → R' (f a) (g b)) {xs : List α} {ds : List β} (hp : PySem.Paired R xs ds) : PySem.Paired R' (xs.map f) (ds.map g) := by
  induction hp with
  | nil => exact .nil
  | cons h1 _ ih => exact .cons (h _ _ h1) ih

/-- keys of one kind -/
structure KeyD (κ : PyProof.Rows.KeyKind) (ok : D → Bool) (kd : D → κ.α) : Prop where
  lt : κ.OneLt
  key : ∀ {v : Value} {d : D}, ok d = true → (∀ h, Rd h v d []) → κ.keyOf v = some (kd d)
  plain : ∀ {h : Heap} {v : Value} {d : D} {f : List Addr}, ok d = true → Rd h v d f → ∀ h', Rd h' v d []
  kind : ∀ {v₁ v₂ : Value} {vs : List Value} {ds : List D}, (∀ d ∈ ds, ok d = true) → PySem.Paired (fun v d => ∀ h, Rd h v d []) (v₁ :: v₂ :: vs) ds → keyKind' (v₁ :: v₂ :: vs).toArray = pure oneType'
  le : ∀ {a b : D}, ok a = true → ok b = true → κ.kle (kd a) (kd b) → keyLe a b = true

noncomputable def isS : D → Bool
  | .str _ => true
  | _ => false
noncomputable def kS : D → List Nat
  | .str s => s.cps.toList
  | _ => []
theorem strs_are {vs : List Value} {ds : List D} (h : PySem.Paired (fun v d => ∀ h, Rd h v d []) vs ds) : (∀ d ∈ ds, isS d = true) → ∃ ss, StrsAre vs ss := by
  induction h with
  | nil => intro _; exact ⟨[], .nil⟩
  | @cons v d l₁ l₂ h1 _ ih =>
    intro k
    obtain ⟨ss, h⟩ := ih fun d hd => k d (List.mem_cons_of_mem _ hd)
    cases d with
    | str s =>
      obtain ⟨t, rfl, _⟩ := (h1 default).str_is
      exact ⟨s :: ss, .cons s t h⟩
    | _ => exact noB (k _ (List.mem_cons_self ..))
theorem keyS : KeyD strKind isS kS where
  lt := strKind_oneLt
  key := fun {v d} h r => by
    cases d with
    | str s => obtain ⟨t, rfl, _⟩ := (r default).str_is; rfl
    | _ => exact noB h
  plain := fun {h v d f} k r h' => by
    cases r with
    | str x t z => exact .str x t z
    | _ => exact noB k
  kind := fun k h => let ⟨_, hs⟩ := strs_are h k; keyKind_strs hs
  le := fun {a b} h1 h2 h => by
    cases a with
    | str s => cases b with
      | str t =>
        have h' : decide (t.cps.toList < s.cps.toList) = false := h
        show (!decide (t.cps.toList < s.cps.toList)) = true
        rw [h']; rfl
      | _ => exact noB h2
    | _ => exact noB h1
/-- an order of the items that the keys allow -/
structure SortOf (ks ds : List D) (out : List D) : Prop where
  mk ::
  is : ∃ ps : List (D × D), ps.Perm (ks.zip ds) ∧ ps.Pairwise (fun x y => keyLe x.1 y.1 = true) ∧ out = ps.map (·.2)

section
variable {prog : Program} {w : World} {A : Around} {E : Value → Shared → Prop} {s : Shared} {κ : PyProof.Rows.KeyKind} {ok : D → Bool} {kd : D → κ.α} {vs : List Value} {ks ds : List D} {fp : List Addr} {h₀ : Heap} {a kT : Addr} {P : PySem.Fin → Shared → Prop}

theorem sort_tail (KD : KeyD κ ok kd) {kA : Array Value} {e e1 : Nat} {st : SortSt} (rs : Rds h₀ vs ds fp) (K : KP h₀ s.heap) (ha0 : h₀.get? a = none) (hk0 : h₀.get? kT = none) (hka : kT ≠ a)
    (hA : s.heap.get? a = some (seqObj "list" #[] e1)) (hkT : s.heap.get? kT = some (seqObj "list" kA e)) (hkeys : PySem.Paired (fun v d => ∀ h, Rd h v d []) kA.toList ks) (hok : ∀ k ∈ ks, ok k = true) (hlen : ks.length = ds.length) (h60 : ds.length ≤ 60)
    (hp : (arrOf st).Perm (kA.zip vs.toArray)) (hs : SortedToK κ (arrOf st) (arrOf st).size) (hfl : failedOf st = none)
    (hQ : ∀ h' tk outA n' out fq, KP h₀ h' → IsL h' a outA n' → SortOf ks ds out → Rds h' outA.toList out fq → (∀ b ∈ fq, b ∈ fp) → outA.size ≤ 60 → P (.done (.ret .none)) { s with heap := h', toks := tk }) :
    wpAny (model prog w) A (ksk_tail a false e1 (.ref kT) st) P E s := by
  have hkl : kA.size = ks.length := by simpa using hkeys.length
  have hvl := rs.length
  have hva : vs.toArray.size = vs.length := by simp
  have hzs : (kA.zip vs.toArray).size = ds.length := by rw [Array.size_zip, hva]; omega
  have hasz : (arrOf st).size = ds.length := hp.size_eq.trans hzs
  have s1 := Heap.SameBut.update s.heap kT (Obj.mapSeq fun _ => (#[] : Array Value))
  have na1 : (s.heap.update kT (Obj.mapSeq fun _ => (#[] : Array Value))).get? a = some (seqObj "list" #[] e1) := (s1.2 a hka.symm).trans hA
  have s2 := Heap.SameBut.update (s.heap.update kT (Obj.mapSeq fun _ => (#[] : Array Value))) a (Obj.mapSeq fun _ => (arrOf st).map (·.2))
  obtain ⟨c2, hc2⟩ : ∃ c2, ((s.heap.update kT (Obj.mapSeq fun _ => (#[] : Array Value))).update a (Obj.mapSeq fun _ => (arrOf st).map (·.2))).get? a = some (seqObj "list" ((arrOf st).map (·.2)) c2) :=
    ⟨_, get?_update_seq na1 fun _ => (arrOf st).map (·.2)⟩
  have K2 : KP h₀ ((s.heap.update kT (Obj.mapSeq fun _ => (#[] : Array Value))).update a (Obj.mapSeq fun _ => (arrOf st).map (·.2))) := fun b o e => by
    have b1 : b ≠ kT := fun q => by rw [q, hk0] at e; cases e
    have b2 : b ≠ a := fun q => by rw [q, ha0] at e; cases e
    exact (s2.2 b b2).trans ((s1.2 b b1).trans (K b o e))
  have hpz : PySem.Paired (fun (p : Value × Value) (q : D × D) => (∀ h, Rd h p.1 q.1 []) ∧ ∃ f, Rd h₀ p.2 q.2 f ∧ ∀ b ∈ f, b ∈ fp) (kA.toList.zip vs) (ks.zip ds) := paired_zip hkeys (Rds.paired vs rs fun _ h => h)
  have hl : (arrOf st).toList.Perm (kA.toList.zip vs) := by rw [← ksk_zip]; exact Array.perm_iff_toList_perm.mp hp
  obtain ⟨ps, hps, hpp⟩ := paired_perm hl hpz
  have okp : ∀ p ∈ ps, ok p.1 = true := fun p hp' => by
    have := hps.mem_iff.mp hp'
    obtain ⟨x, y⟩ := p
    exact hok _ (List.of_mem_zip this).1
  have hsorted : ps.Pairwise (fun x y => keyLe x.1 y.1 = true) := by
    rw [List.pairwise_iff_getElem]
    intro i j hi hj hij
    have hlen2 : (arrOf st).toList.length = ps.length := hpp.length
    have key : ∀ k (hk : k < ps.length), KK κ (arrOf st) k = kd ps[k].1 := fun k hk => by
      obtain ⟨x, hx, hr, _⟩ := paired_at hpp (i := k) (d := ps[k]) (by simp [hk])
      have hx' : (arrOf st)[k]? = some x := by simpa using hx
      unfold KK
      rw [hx']
      dsimp only
      rw [KD.key (okp _ (List.getElem_mem ..)) hr]; rfl
    have q := hs i j (Nat.le_of_lt hij) (by have : (arrOf st).toList.length = (arrOf st).size := by simp
                                            omega)
    rw [key i hi, key j hj] at q
    exact KD.le (okp _ (List.getElem_mem ..)) (okp _ (List.getElem_mem ..)) q
  have hout : ((arrOf st).map (·.2)).toList = (arrOf st).toList.map (·.2) := Array.toList_map ..
  obtain ⟨fq, rq, hfq⟩ := paired_rds (h := h₀) (fp := fp) (paired_map (R' := fun v d => ∃ f, Rd h₀ v d f ∧ ∀ b ∈ f, b ∈ fp) (f := fun p : Value × Value => p.2) (g := fun q : D × D => q.2) (fun _ _ h => h.2) hpp)
  unfold ksk_tail
  try dsimp only
  refine wpAny_bind (listUpdate_at hkT rfl ?_ (by rw [sizeLine_eq]; omega) (Nat.zero_le _))
  refine wpAny_bind (wpAny_letGo ?_)
  refine wpAny_bind (seqEpoch_at na1 rfl ?_)
  simp only [Bool.false_eq_true, if_false]
  refine wpAny_bind (listUpdate_at na1 rfl ?_ (Nat.zero_le _) (Nat.le_trans (Nat.le_of_eq ((Array.size_map ..).trans hasz)) (by rw [sizeLine_eq]; omega)))
  rw [hfl]
  simp only [bne_self_eq_false, Bool.false_eq_true, if_false]
  exact wpAny_pure (hQ _ _ _ c2 _ fq K2 hc2 ⟨⟨ps, hps, hsorted, rfl⟩⟩ (hout ▸ rq.kp K2) hfq (by rw [Array.size_map, hasz]; exact h60))

theorem sort_end (KD : KeyD κ ok kd) {kA : Array Value} {e e1 : Nat} (rs : Rds h₀ vs ds fp) (K : KP h₀ s.heap) (ha0 : h₀.get? a = none) (hk0 : h₀.get? kT = none) (hka : kT ≠ a)
    (hA : s.heap.get? a = some (seqObj "list" #[] e1)) (hkT : s.heap.get? kT = some (seqObj "list" kA e)) (hkeys : PySem.Paired (fun v d => ∀ h, Rd h v d []) kA.toList ks) (hok : ∀ k ∈ ks, ok k = true) (hlen : ks.length = ds.length) (h60 : ds.length ≤ 60)
    (hQ : ∀ h' tk outA n' out fq, KP h₀ h' → IsL h' a outA n' → SortOf ks ds out → Rds h' outA.toList out fq → (∀ b ∈ fq, b ∈ fp) → outA.size ≤ 60 → P (.done (.ret .none)) { s with heap := h', toks := tk }) :
    wpAny (model prog w) A (ksk_end a false vs.toArray e1 (.ref kT) kA) P E s := by
  have hkl : kA.size = ks.length := by simpa using hkeys.length
  have hvl := rs.length
  have hva : vs.toArray.size = vs.length := by simp
  have hzs : (kA.zip vs.toArray).size = ds.length := by rw [Array.size_zip, hva]; omega
  unfold ksk_end
  simp only [Bool.false_eq_true, if_false]
  by_cases h2 : vs.toArray.size < 2
  · rw [if_pos h2, if_pos h2]
    refine wpAny_bind (wpAny_pure ?_)
    rw [StateT.run_pure]
    refine wpAny_bind (wpAny_pure ?_)
    try dsimp only
    refine sort_tail (st := SortSt.mk' general' (kA.zip vs.toArray) #[] 7 none) KD rs K ha0 hk0 hka hA hkT hkeys hok hlen h60 (Array.Perm.refl _) ?_ rfl hQ
    intro i j hij hj
    have hj2 : j < (kA.zip vs.toArray).size := hj
    rw [hzs] at hj2
    rw [List.size_toArray] at h2
    have : i = j := by omega
    subst this
    exact KeyOrd.kle_refl _
  · rw [if_neg h2, if_neg h2]
    rw [List.size_toArray] at h2
    have hkind : keyKind' kA = pure oneType' := by
      obtain ⟨v₁, v₂, rest, e⟩ : ∃ v₁ v₂ rest, kA.toList = v₁ :: v₂ :: rest := by
        have hl : 2 ≤ kA.toList.length := by rw [Array.length_toList]; omega
        cases q : kA.toList with
        | nil => rw [q] at hl; simp at hl
        | cons v₁ r => cases r with
          | nil => rw [q] at hl; simp at hl
          | cons v₂ rest => exact ⟨v₁, v₂, rest, rfl⟩
      have ek : kA = (v₁ :: v₂ :: rest).toArray := by rw [← e, Array.toArray_toList]
      rw [e] at hkeys
      rw [ek]
      exact KD.kind hok hkeys
    have hko : PyProof.Rows.KeysOf κ (kA.zip vs.toArray) := by
      intro p hp
      rw [ksk_zip] at hp
      obtain ⟨x, y⟩ := p
      obtain ⟨d, hd, hr⟩ := paired_mem hkeys x (List.of_mem_zip hp).1
      exact ⟨_, KD.key (hok d hd) hr⟩
    rw [hkind]
    refine wpAny_bind (wpAny_pure ?_)
    refine wpAny_bind (wpAny_mono (wpS_sortRunsK (κ := κ) KD.lt (a₀ := kA.zip vs.toArray) (st := SortSt.mk' oneType' (kA.zip vs.toArray) #[] 7 none)
      (Q := fun _ st' => (arrOf st').Perm (kA.zip vs.toArray) ∧ failedOf st' = none ∧ SortedToK κ (arrOf st') (kA.zip vs.toArray).size)
      hko ⟨Array.Perm.refl _, rfl, rfl, rfl⟩ (by rw [hzs]; omega) (by rw [hzs]; omega) fun st' a1 a2 a3 => ⟨a1, a2, a3⟩) ?_ fun _ _ e => e)
    rintro ⟨⟨⟩, st'⟩ s' ⟨rfl, hp, hf, hs⟩
    try dsimp only
    exact sort_tail KD rs K ha0 hk0 hka hA hkT hkeys hok hlen h60 hp (by rw [hp.size_eq]; exact hs) hf hQ
end
end Mine
set_option maxHeartbeats 1000000
namespace Mine
open PySem PySem.SeqAt PyProof.Rows PySem.Calls

section
variable {prog : Program} {w : World} {A : Around} {E : Value → Shared → Prop} {s : Shared} {κ : PyProof.Rows.KeyKind} {ok : D → Bool} {kd : D → κ.α} {vs : List Value} {ks ds : List D} {fp : List Addr} {h₀ : Heap} {a kT : Addr} {P : PySem.Fin → Shared → Prop}

/-- the keys made so far -/
inductive KyInv (s : Shared) (h₀ : Heap) (a kT : Addr) (e1 : Nat) (ks : List D) (i : Nat) (s' : Shared) : Prop
  | mk (h' : Heap) (tk : Nat) (kA : Array Value) (e : Nat) (es : s' = { s with heap := h', toks := tk }) (K : KP h₀ h') (hA : h'.get? a = some (seqObj "list" #[] e1)) (hk : h'.get? kT = some (seqObj "list" kA e))
    (hkeys : PySem.Paired (fun v d => ∀ h, Rd h v d []) kA.toList (ks.take i)) : KyInv s h₀ a kT e1 ks i s'

theorem sort_rest (KD : KeyD κ ok kd) {f : Value} {e1 : Nat} (rs : Rds h₀ vs ds fp) (K : KP h₀ s.heap) (ha0 : h₀.get? a = none) (hk0 : h₀.get? kT = none) (hka : kT ≠ a)
    (hA : s.heap.get? a = some (seqObj "list" #[] e1)) (hkT : s.heap.get? kT = some (seqObj "list" #[] 0)) (hok : ∀ k ∈ ks, ok k = true) (hlen : ks.length = ds.length) (h60 : ds.length ≤ 60)
    (turn : ∀ (i : Nat) (v : Value) (d k : D), vs[i]? = some v → ds[i]? = some d → ks[i]? = some k → ∀ (s' : Shared) (E' : Value → Shared → Prop), KP h₀ s'.heap → wpAny (model prog w) A (call f [v]) (fun kv s'' => Go s' s'' ∧ ∃ f, Rd s''.heap kv k f) E' s')
    (hQ : ∀ h' tk outA n' out fq, KP h₀ h' → IsL h' a outA n' → SortOf ks ds out → Rds h' outA.toList out fq → (∀ b ∈ fq, b ∈ fp) → outA.size ≤ 60 → P (.done (.ret .none)) { s with heap := h', toks := tk }) :
    wpAny (model prog w) A (ksk_rest a f false vs.toArray e1 (.ref kT)) P E s := by
  have hvl := rs.length
  unfold ksk_rest
  refine wpAny_bind (wpAny_rule ?_)
  rw [List.forIn_toArray]
  refine wpAny_bind (ksk_fold (KyInv s h₀ a kT e1 ks) vs 0 s ⟨s.heap, s.toks, #[], 0, rfl, K, hA, hkT, by simpa using PySem.Paired.nil⟩ ?step ?done)
  case step =>
    rintro j x s' hx ⟨h', tk, kA, e, rfl, K', hA', hk', hkeys⟩
    rw [Nat.zero_add] at hkeys ⊢
    have hj : j < vs.length := (List.getElem?_eq_some_iff.mp hx).1
    have hj1 : j < ds.length := by omega
    have hj2 : j < ks.length := by omega
    have hkj : ks[j]? = some ks[j] := List.getElem?_eq_getElem hj2
    have hz : kA.size ≤ 60 := by
      have h1 := hkeys.length
      rw [Array.length_toList, List.length_take] at h1
      omega
    refine wpAny_bind (wpAny_attempt (wpAny_mono (turn j x ds[j] ks[j] hx (List.getElem?_eq_getElem hj1) hkj { s with heap := h', toks := tk } _ K') (fun v s'' he => ?_) fun _ _ hF => hF))
    obtain ⟨⟨g, tk2, rfl, kg⟩, fk, rk⟩ := he
    try dsimp only
    have nk := kg _ _ hk'
    have na := kg _ _ hA'
    have s1 := Heap.SameBut.update g kT (Obj.mapSeq (·.push v))
    obtain ⟨c2, hc2⟩ : ∃ c2, (g.update kT (Obj.mapSeq (·.push v))).get? kT = some (seqObj "list" (kA.push v) c2) := ⟨_, get?_update_seq nk (·.push v)⟩
    refine wpAny_bind (listUpdate_at nk rfl ?_ (by rw [sizeLine_eq]; omega) (Nat.le_trans (Nat.le_of_eq (Array.size_push ..)) (by rw [sizeLine_eq]; omega)))
    refine wpAny_pure ⟨rfl, _, _, kA.push v, c2, rfl, fun b o e => ?_, (s1.2 a hka.symm).trans na, hc2, ?_⟩
    · exact (s1.2 b (fun q => by rw [q, hk0] at e; cases e)).trans (kg b o (K' b o e))
    · have ek : ks.take (j + 1) = ks.take j ++ [ks[j]] := by rw [List.take_add_one, hkj]; rfl
      rw [Array.toList_push, ek]
      exact hkeys.snoc (KD.plain (hok _ (List.getElem_mem ..)) rk)
  case done =>
    rintro s' ⟨h', tk, kA, e, rfl, K', hA', hk', hkeys⟩
    have e3 : ks.take (0 + vs.length) = ks := List.take_of_length_le (by omega)
    rw [e3] at hkeys
    try dsimp only
    refine wpAny_bind (listItems_at hk' rfl ?_)
    exact sort_end KD rs K' ha0 hk0 hka hA' hk' hkeys hok hlen h60 fun h3 tk3 outA n' out fq => hQ h3 tk3 outA n' out fq

theorem sort_tree (KD : KeyD κ ok kd) {f : Value} {n : Nat} (rs : Rds h₀ vs ds fp) (K : KP h₀ s.heap) (ha0 : h₀.get? a = none) (hsz : h₀.objs.size ≤ s.heap.objs.size)
    (hA : s.heap.get? a = some (seqObj "list" vs.toArray n)) (hok : ∀ k ∈ ks, ok k = true) (hlen : ks.length = ds.length) (h60 : ds.length ≤ 60)
    (turn : ∀ (i : Nat) (v : Value) (d k : D), vs[i]? = some v → ds[i]? = some d → ks[i]? = some k → ∀ (s' : Shared) (E' : Value → Shared → Prop), KP h₀ s'.heap → wpAny (model prog w) A (call f [v]) (fun kv s'' => Go s' s'' ∧ ∃ f, Rd s''.heap kv k f) E' s')
    (hQ : ∀ h' tk outA n' out fq, KP h₀ h' → IsL h' a outA n' → SortOf ks ds out → Rds h' outA.toList out fq → (∀ b ∈ fq, b ∈ fp) → outA.size ≤ 60 → P (.done (.ret .none)) { s with heap := h', toks := tk }) :
    wpAny (model prog w) A (ksk_tree a f false) P E s := by
  have hvl := rs.length
  have hva : vs.toArray.size = vs.length := by simp
  have ha : a < s.heap.objs.size := Heap.lt_size hA
  have s1 := Heap.SameBut.update s.heap a (Obj.mapSeq fun _ => (#[] : Array Value))
  obtain ⟨e1, ho1⟩ : ∃ e1, (s.heap.update a (Obj.mapSeq fun _ => (#[] : Array Value))).get? a = some (seqObj "list" #[] e1) := ⟨_, get?_update_seq hA fun _ => #[]⟩
  have hkS : ((s.heap.update a (Obj.mapSeq fun _ => (#[] : Array Value))).push (seqObj "tuple" vs.toArray 0)).objs.size = s.heap.objs.size + 1 := by rw [size_push', Heap.size_update]
  unfold ksk_tree
  refine wpAny_bind (listItems_at hA rfl ?_)
  refine wpAny_bind (listUpdate_at hA rfl ?_ (by rw [hva, sizeLine_eq]; omega) (Nat.zero_le _))
  refine wpAny_bind (seqEpoch_at ho1 rfl ?_)
  refine wpAny_bind (wpAny_newTuple ?_ (by show vs.length ≤ _; rw [sizeLine_eq]; omega))
  refine wpAny_bind (wpAny_newList ?_ (Nat.zero_le _))
  refine wpAny_holding ?_
  refine sort_rest (s := { s with heap := ((s.heap.update a (Obj.mapSeq fun _ => (#[] : Array Value))).push (seqObj "tuple" vs.toArray 0)).push (seqObj "list" #[] 0) }) (kT := ((s.heap.update a (Obj.mapSeq fun _ => (#[] : Array Value))).push (seqObj "tuple" vs.toArray 0)).objs.size)
    KD rs (fun b o e => ?_) ha0 ?_ (by rw [hkS]; exact Nat.ne_of_gt (Nat.lt_succ_of_lt ha)) (Heap.get?_push_of_some _ (Heap.get?_push_of_some _ ho1)) (Heap.get?_push_size _ rfl) hok hlen h60 turn hQ
  · exact Heap.get?_push_of_some _ (Heap.get?_push_of_some _ ((s1.2 b (fun q => by rw [q, ha0] at e; cases e)).trans (K b o e)))
  · rw [hkS]
    exact Heap.get?_none_of_le (by omega)
end
end Mine
set_option maxHeartbeats 1000000
namespace Mine
open PySem PySem.SeqAt PyProof.Rows PySem.Calls

section
variable {prog : Program} {w : World} {A : Around} {E : Value → Shared → Prop} {s : Shared} {κ : PyProof.Rows.KeyKind} {ok : D → Bool} {kd : D → κ.α} {ks ds : List D} {O : List Addr}

/-- a value whose items can be taken out -/
noncomputable def Coll (prog : Program) (w : World) (A : Around) (s : Shared) (O : List Addr) (xv : Value) (ds : List D) : Prop :=
  ∀ (Q : List Value → Shared → Prop) (E : Value → Shared → Prop), (∀ vs s', Go s s' → (∃ fp, Rds s'.heap vs ds fp ∧ Off fp O) → Q vs s') → wpAny (model prog w) A (collect xv) Q E s

theorem coll_list {l : Addr} {vs : Array Value} {n : Nat} {fp : List Addr} (hl : IsL s.heap l vs n) (rs : Rds s.heap vs.toList ds fp) (of : Off fp O) (h60 : ds.length ≤ 60) : Coll prog w A s O (.ref l) ds := by
  intro Q E h
  have hvl := rs.length
  refine collect_list (vs := vs.toList) (by rw [Array.toArray_toList]; exact ⟨_, hl, rfl, _, rfl⟩) ?_ (by rw [sizeLine_eq]; omega)
  have k : KP s.heap ((s.heap.push (seqObj "list" #[] 0)).update s.heap.objs.size (Obj.mapSeq (· ++ vs.toList.toArray))) := fun b o e => by
    have hlt : b < s.heap.objs.size := Heap.lt_size e
    rw [Heap.get?_update_ne _ _ _ _ (Nat.ne_of_lt hlt)]
    exact Heap.get?_push_of_some _ e
  exact h _ _ ⟨_, s.toks, rfl, k⟩ ⟨fp, rs.kp k, of⟩

theorem s_sorted {xv : Value} {q : Addr} (KD : KeyD κ ok kd) (L : Live O s.heap) (coll : Coll prog w A.in1 s O xv ds) (hok : ∀ k ∈ ks, ok k = true) (hlen : ks.length = ds.length) (h60 : ds.length ≤ 60)
    (turn : ∀ (i : Nat) (v : Value) (d k : D) (f : List Addr), ds[i]? = some d → ks[i]? = some k → ∀ (s' : Shared) (E' : Value → Shared → Prop), KP s.heap s'.heap → Rd s'.heap v d f → Off f O →
      wpAny (model prog w) A.in1.in1 (call (.ref q) [v]) (fun kv s'' => Go s' s'' ∧ ∃ f, Rd s''.heap kv k f) E' s') :
    wpAny (model prog w) A (call (.builtin "sorted") [xv] [(Str.ofString "key", .ref q)]) (fun v s' => ∃ out, SortOf ks ds out ∧ PostE s O (.list out) true v s') E s := by
  refine call_function_entry_kw kind_sorted plain_sorted entry_sorted (ksk_s1 _ _) ?_
  unfold Builtin.«sorted»
  refine wpAny_bind (m := checkCount "sorted" 1 1 _) (wpAny_pure ?_)
  refine wpAny_bind (coll _ _ fun vs s₁ g ⟨fp, rs, of⟩ => ?_)
  have hvl := rs.length
  have L₁ := L.kp g.kp
  refine wpAny_bind (wpAny_newList ?_ (by rw [sizeLine_eq]; omega))
  have hoL : (s₁.heap.push (seqObj "list" vs.toArray 0)).get? s₁.heap.objs.size = some (seqObj "list" vs.toArray 0) := Heap.get?_push_size _ rfl
  show wpAny _ _ _ _ _ { s₁ with heap := s₁.heap.push (seqObj "list" vs.toArray 0) }
  refine wpAny_bind (wpAny_holding (wpAny_call_entry_kw slot_list_sort ⟨_, hoL, rfl⟩ entry_list_sort ?body (ksk_l1 _ _)))
  case body =>
    show wpAny (model prog w) A.in1.in1 (Builtin.«list.sort» ⟨[.ref s₁.heap.objs.size], [(Str.ofString "key", .ref q)]⟩) _ _ _
    rw [ksk_t1]
    refine sort_tree (s := { s₁ with heap := s₁.heap.push (seqObj "list" vs.toArray 0) }) (h₀ := s₁.heap) KD rs (fun b o e => Heap.get?_push_of_some _ e) (size_none _) (by show _ ≤ (s₁.heap.push (seqObj "list" vs.toArray 0)).objs.size; rw [size_push']; omega) hoL hok hlen h60 (fun i v d k hv hd hk s' E' K' => ?_)
      fun h' tk outA n' out fq K' hl hs rq hfq h6 => ⟨_, rfl, ?_⟩
    · obtain ⟨v', f, e1, r, hf⟩ := rs.get hd
      have : v' = v := by rw [hv] at e1; cases e1; rfl
      subst this
      exact turn i v' d k f hd hk s' E' (KP.trans g.kp K') (r.kp K') fun b hb => of b (hf b hb)
    · refine wpAny_pure ⟨_, rfl, out, hs, ?_, ⟨_, .list (by omega) hl rq, fun b hb => ?_⟩, fun _ l e => ?_⟩
      · obtain ⟨h1, t1, rfl, k1⟩ := g
        exact ⟨h', tk, rfl, KP.trans k1 K'⟩
      · rcases List.mem_cons.mp hb with rfl | hb
        · exact L₁.size
        · exact of b (hfq b hb)
      · cases e
        refine ⟨_, outA, n', fq, rfl, ?_, by omega, hl, rq, fun hm => ?_, fun b hb => of b (hfq b hb)⟩
        · cases e : s.heap.get? s₁.heap.objs.size with
          | none => rfl
          | some o =>
            have := size_none s₁.heap
            rw [g.kp _ _ e] at this; cases this
        · obtain ⟨o, e⟩ := rs.live _ (hfq _ hm)
          rw [size_none] at e; cases e
end
end Mine
set_option maxHeartbeats 1000000
namespace Mine
open PySem PySem.SeqAt PyProof.Rows PySem.Calls

/-! a lambda of one name -/
noncomputable def lamCx (c : Cx) (lsc : Scope) (p : Str) : Cx := ⟨lsc, (p, c.k) :: c.Γ, c.k + 1, c.fns⟩
noncomputable def lamArgs (p : Str) (ap : Pos) : Arguments := ⟨[], [⟨p, none, ap⟩], none, [], [], none, []⟩
/-- the lambda takes one value -/
noncomputable def LamBind (p : Str) (ap : Pos) (body : Expr) (lsc : Scope) : Prop := ∀ (qual : Str) (cl : List (Str × Addr)) (pm cdv ct v : Value), bindArgs (PySem.W.kla_fn "<lambda>" qual (lamArgs p ap) body lsc cl pm cdv ct) ⟨[v], []⟩ = pure [(p, v)]

section
variable {prog : Program} {w : World} {mg mb : Str → Option Value} {h₀ : Heap} {lv : Nat} {fns : List Str} {Φ : List (List D → Option D)} {n : Nat} {A : Around} {E : Value → Shared → Prop} {c : Cx} {env : Env} {s s' : Shared} {O : List Addr} {σ : List (Option D)} {lsc : Scope} {p : Str}

theorem lam_env (EO : EnvOk c env) (ok : compOk lsc c.sc [p] = true) (qual : Str) (L a : Addr) (cd : Value) : EnvOk (lamCx c lsc p) (PySem.W.envX qual lsc L a cd (closL env.cells lsc.names [])) := by
  obtain ⟨h1, h2, h3, h4, h5⟩ := compOk_parts ok
  refine ⟨rfl, h1, rfl, rfl, fun y hy => ?_, fun y i hy => ?_⟩
  · have hy' : lsc.names.lookup y = some .free := by
      rcases hy with hy | hy
      · exact absurd rfl (h3 _ (mem_of_look hy))
      · exact hy
    have hm := mem_of_look hy'
    obtain ⟨a, ha⟩ := EO.cells y (h5 _ hm rfl)
    exact ⟨a, closL_look ha _ _ hm⟩
  · show i < c.k + 1
    change List.lookup y ((p, c.k) :: c.Γ) = some i at hy
    rw [List.lookup_cons] at hy
    split at hy
    · cases hy; omega
    · have := EO.lt y i hy; omega

theorem lam_vis (EO : EnvOk c env) (ok : compOk lsc c.sc [p] = true) (hk : c.k = σ.length) (hpl : lsc.names.lookup p = some .local) {h : Heap} {L a : Addr} {cd : Value} {qual : Str} {m : Str → Option Value} {v : Value} {d : D} {fp O' : List Addr}
    (V : Vis c h env O' σ) (hn : h.Ns L m) (hm : m p = some v) (r : Rd h v d fp) (o : Off fp O') : Vis (lamCx c lsc p) h (PySem.W.envX qual lsc L a cd (closL env.cells lsc.names [])) O' (σ ++ [some d]) := by
  obtain ⟨h1, h2, h3, h4, h5⟩ := compOk_parts ok
  intro y i dy hy hi
  obtain ⟨q1, q2, q0, q3, q4⟩ := own_kind hy
  by_cases hyx : y = p
  · subst hyx
    have hi' : i = c.k := by
      change List.lookup y ((y, c.k) :: c.Γ) = some i at q4
      rw [List.lookup_cons] at q4
      simp at q4
      exact q4.symm
    subst hi'
    rw [hk, List.getElem?_append_right (Nat.le_refl _)] at hi
    simp at hi
    subst hi
    exact ⟨v, fp, .inl ⟨hpl, m, hn, hm⟩, r, o⟩
  · have hyx' : (y == p) = false := by simpa using hyx
    have q4' : c.Γ.lookup y = some i := by
      change List.lookup y ((p, c.k) :: c.Γ) = some i at q4
      rw [List.lookup_cons, hyx'] at q4
      exact q4
    have hlt := EO.lt y i q4'
    rw [List.getElem?_append_left (by omega)] at hi
    have hfree : lsc.names.lookup y = some .free := by
      rcases q3 with q3 | q3 | q3
      · rcases h2 _ (mem_of_look q3) rfl with q | q
        · exact absurd q (by simpa using q0)
        · exact absurd (by simpa using q) hyx
      · exact absurd rfl (h3 _ (mem_of_look q3))
      · exact q3
    have hm' := mem_of_look hfree
    have ho := h5 _ hm' rfl
    have hown : c.own? y = some i := by
      unfold Cx.own?
      rw [q1, q2, q0]
      rcases ho with ho | ho <;> simp only [ho] <;> exact q4'
    obtain ⟨v', fp', hv, r', o'⟩ := V y i dy hown hi
    have henv : env.kindOf y = c.sc.names.lookup y := by unfold Env.kindOf; rw [EO.sc]
    rcases hv with ⟨a, _⟩ | ⟨_, a, ha, hc⟩
    · rw [henv] at a
      rcases ho with ho | ho <;> rw [ho] at a <;> cases a
    · exact ⟨v', fp', .inr ⟨.inr hfree, a, closL_look ha _ _ hm', hc⟩, r', o'⟩

/-- what the machine has of a lambda -/
structure LamAt (h : Heap) (q : Addr) (p : Str) (ap : Pos) (body : Expr) (lsc : Scope) (cl : List (Str × Addr)) : Prop where
  is : ∃ qual pm c' ctv, h.get? q = some (PySem.W.kla_obj "<lambda>" qual (lamArgs p ap) body lsc cl pm c' ctv) ∧ h.CodeRec (.ref c') qual
theorem LamAt.kp {h h' : Heap} {q : Addr} {ap : Pos} {body : Expr} {cl : List (Str × Addr)} (x : LamAt h q p ap body lsc cl) (k : KP h h') : LamAt h' q p ap body lsc cl := by
  obtain ⟨qual, pm, c', ctv, h1, h2⟩ := x
  exact ⟨⟨qual, pm, c', ctv, k _ _ h1, h2.keeps k⟩⟩

/-- a lambda is called -/
theorem s_lam {q : Addr} {ap : Pos} {body : Expr} {key : X} {v : Value} {d k : D} {f : List Addr} (T : Tied prog w mg mb h₀ lv fns Φ) (hE : SE prog w h₀ lv fns Φ n) (X : LamAt s.heap q p ap body lsc (closL env.cells lsc.names []))
    (rm : Rm (n + lv + 1) A) (EO : EnvOk c env) (fs : c.fns = fns) (hk : c.k = σ.length) (ok : compOk lsc c.sc [p] = true) (hpl : lsc.names.lookup p = some .local) (hco : lsc.isCoroutine = false) (hgen : lsc.isGenerator = false) (hbind : LamBind p ap body lsc)
    (K : KP h₀ s.heap) (V : Vis c s.heap env O σ) (L : Live O s.heap) (r : Rd s.heap v d f) (o : Off f O) (ck : cE n (lamCx c lsc p) body = some key) (hv : ev Φ key (σ ++ [some d]) = some k) :
    wpAny (model prog w) A (call (.ref q) [v]) (fun kv s'' => Go s s'' ∧ ∃ f, Rd s''.heap kv k f) E s := by
  obtain ⟨qual, pm, c', ctv, ho, hcd⟩ := X
  obtain ⟨h1, h2, h3, h4, h5⟩ := compOk_parts ok
  refine wpAny_call (PySem.W.kla_callFunE (by have := rm.d; unfold recursionLimit; omega) ho rfl hco hgen rfl hcd ?_)
  rw [hbind]
  refine wpAny_pure (wpAny_newFunctionEnv (fun x hx => h3 x hx) (fun x hx => by rw [List.mem_singleton.mp hx]; exact hpl) (fun h₁ hns hsb => ⟨((T.base.nolimit).keeps K).fresh _ hsb, ?_⟩) h1)
  show codeAny _ _ (.expr body (PySem.W.envX qual lsc s.heap.objs.size q (.ref c') (closL env.cells lsc.names []))) _ _
  have hk₁ : KP s.heap h₁ := fun b o e => hsb.extBut b o (Nat.ne_of_lt (Heap.lt_size e)) (Heap.get?_push_of_some _ e)
  refine PySem.W.kla_codeExpr (wpAny_mono (hE _ _ (lamCx c lsc p) _ body key { s with heap := h₁, toks := s.toks + 1 } O (σ ++ [some d]) k ⟨rm.deeper, lam_env EO ok qual _ _ _, fs, by show c.k + 1 = _; rw [hk, List.length_append]; rfl, KP.trans K hk₁,
    lam_vis EO ok hk hpl (V.kp hk₁) hns (by simp) (r.kp hk₁) o, L.kp hk₁⟩ ck hv) (fun kv s'' h => ?_) fun _ _ e => e)
  obtain ⟨⟨h2', t2, rfl, k2⟩, ⟨f2, r2, _⟩, _⟩ := h
  exact ⟨⟨h2', t2, rfl, KP.trans hk₁ k2⟩, f2, r2⟩

/-- the machine's list of the codes made inside a def -/
noncomputable def TabAt (h : Heap) (env : Env) (Pt : Addr) : Prop := ∃ c, env.code = .ref c ∧ PySem.W.CodeHd h c Pt ∧ h.get? Pt = some (PySem.W.tabObj #[])
noncomputable def BAt (mg : Str → Option Value) (h : Heap) : Prop := ∃ bm ob, mg "__builtins__" = some (.ref bm) ∧ bm ≠ builtinsNs ∧ h.get? bm = some ob ∧ ob.cls = .type "module" ∧ ob.dict = some builtinsNs ∧ ob.data = .plain
/-- all but one place stand as they were -/
abbrev KPb (P : Addr) (h h' : Heap) : Prop := ∀ b o, b ≠ P → h.get? b = some o → h'.get? b = some o

theorem s_lambda {body : Expr} {ap pos : Pos} {Pt : Addr} {Q : Value → Shared → Prop} (T : Tied prog w mg mb h₀ lv fns Φ) (EO : EnvOk c env) (ok : compOk lsc c.sc [p] = true) (K : KP h₀ s.heap) (X : TabAt s.heap env Pt) (B : BAt mg s.heap)
    (h : ∀ q h' tk, LamAt h' q p ap body lsc (closL env.cells lsc.names []) → KPb Pt s.heap h' → (∃ ps, h'.get? Pt = some (PySem.W.tabObj ps)) → Q (.ref q) { s with heap := h', toks := tk }) :
    wpAny (model prog w) A (eval (.Lambda (lamArgs p ap) body lsc pos) env) Q E s := by
  obtain ⟨h1, h2, h3, h4, h5⟩ := compOk_parts ok
  obtain ⟨c₀, hc, C, hP⟩ := X
  obtain ⟨bm, ob, b1, b2, b3, b4, b5, b6⟩ := B
  have hg := T.base.g.keeps K
  have hgP : mainGlobals ≠ Pt := fun q => by
    obtain ⟨o, es, ep, e, hd, _⟩ := hg
    rw [q, hP] at e; cases e; cases hd
  have hbP : bm ≠ Pt := fun q => by rw [q, hP] at b3; cases b3; cases b4
  have hbG : bm ≠ mainGlobals := fun q => by
    obtain ⟨o, es, ep, e, hd, _⟩ := hg
    rw [q, e] at b3; cases b3; rw [hd] at b6; cases b6
  refine PySem.W.kla_eval rfl (PySem.W.kla_makeFunction (mg := mg) (closure_eq fun y hy e => EO.cells y.1 (h5 y hy e)) EO.gl hg hc C hP trivial rfl hgP ⟨bm, ob, b1, b2, hbG, hbP, b3, b4, b5, b6⟩ fun c' ctv h' tk hx hge hlt hrec htb => ?_)
  refine h _ _ tk ⟨⟨_, _, c', ctv, Heap.get?_push_size _ rfl, hrec.keeps fun b o e => Heap.get?_push_of_some _ e⟩⟩ (fun b o hb e => Heap.get?_push_of_some _ (hx b o hb e)) ⟨_, Heap.get?_push_of_some _ htb⟩
end
end Mine
set_option maxHeartbeats 1000000
namespace Mine
open PySem PySem.SeqAt PyProof.Rows PySem.Calls

theorem boot_sorted : bootBuiltins "sorted" = some (.builtin "sorted") := by decide +kernel
section
variable {prog : Program} {w : World} {mg mb : Str → Option Value} {h₀ h h' : Heap} {lv : Nat} {fns : List Str} {Φ : List (List D → Option D)} {n : Nat} {A : Around} {E : Value → Shared → Prop} {c : Cx} {env : Env} {s s' : Shared} {O : List Addr} {σ : List (Option D)} {lsc : Scope} {p : Str} {Pt : Addr} {ps : Array Value}

/-- what a change of the machine's list of codes leaves alone -/
theorem kb_seq (hP : h.get? Pt = some (PySem.W.tabObj ps)) (k : KPb Pt h h') : ∀ b o vs n, h.get? b = some o → o.data = .seq vs n → h'.get? b = some o := fun b o vs n e hd =>
  k b o (fun q => by rw [q, hP] at e; cases e; cases hd) e
theorem kb_ns {a : Addr} {m : Str → Option Value} (hP : h.get? Pt = some (PySem.W.tabObj ps)) (k : KPb Pt h h') (x : h.Ns a m) : h'.Ns a m := by
  obtain ⟨o, es, ep, e, hd, r⟩ := x
  exact ⟨o, es, ep, k _ _ (fun q => by rw [q, hP] at e; cases e; cases hd) e, hd, r⟩
theorem kb_cell {a : Addr} {v : Option Value} (hP : h.get? Pt = some (PySem.W.tabObj ps)) (k : KPb Pt h h') (x : h.IsCell a v) : h'.IsCell a v := by
  obtain ⟨o, e, r⟩ := x
  refine ⟨o, k _ _ (fun q => ?_) e, r⟩
  rw [q, hP] at e; cases e
  first | cases r | cases r.1 | cases r.2
theorem kb_vis (hP : h.get? Pt = some (PySem.W.tabObj ps)) (k : KPb Pt h h') (V : Vis c h env O σ) : Vis c h' env O σ := fun x i d h1 h2 => by
  obtain ⟨v, fp, a, r, o⟩ := V x i d h1 h2
  refine ⟨v, fp, ?_, r.sq (kb_seq hP k), o⟩
  rcases a with ⟨a, m, b, c⟩ | ⟨a, c, b, d⟩
  · exact .inl ⟨a, m, kb_ns hP k b, c⟩
  · exact .inr ⟨a, c, b, kb_cell hP k d⟩
theorem kb_live (k : KPb Pt h h') (hp : ∃ ps, h'.get? Pt = some (PySem.W.tabObj ps)) (L : Live O h) : Live O h' := fun b hb => by
  obtain ⟨o, e⟩ := L b hb
  by_cases q : b = Pt
  · obtain ⟨ps, hp⟩ := hp; rw [q]; exact ⟨_, hp⟩
  · exact ⟨o, k b o q e⟩
theorem kb_kp (h0 : h₀.get? Pt = none) (k : KPb Pt h h') (K : KP h₀ h) : KP h₀ h' := fun b o e => k b o (fun q => by rw [q, h0] at e; cases e) (K b o e)
theorem TabAt.kp (x : TabAt h env Pt) (k : KP h h') : TabAt h' env Pt := by
  obtain ⟨c, h1, h2, h3⟩ := x; exact ⟨c, h1, h2.keeps k, k _ _ h3⟩
theorem BAt.kp (x : BAt mg h) (k : KP h h') : BAt mg h' := by
  obtain ⟨bm, ob, b1, b2, b3, r⟩ := x; exact ⟨bm, ob, b1, b2, k _ _ b3, r⟩

/-- how a sorted call ends -/
structure SortEnd (s : Shared) (O : List Addr) (Pt : Addr) (ks ds : List D) (v : Value) (s₃ : Shared) : Prop where
  is : ∃ h₂ tk out, KPb Pt s.heap h₂ ∧ (∃ ps, h₂.get? Pt = some (PySem.W.tabObj ps)) ∧ SortOf ks ds out ∧ PostE { s with heap := h₂, toks := tk } O (.list out) true v s₃

theorem e_sorted {κ : PyProof.Rows.KeyKind} {ok : D → Bool} {kd : D → κ.α} (KD : KeyD κ ok kd) {e body : Expr} {np pos lpos kp ap : Pos} {key : X} {ds ks : List D} (T : Tied prog w mg mb h₀ lv fns Φ) (hE : SE prog w h₀ lv fns Φ n) (rm : Rm (n + lv + 3) A)
    (EO : EnvOk c env) (fs : c.fns = fns) (hk : c.k = σ.length) (K : KP h₀ s.heap) (h0 : h₀.get? Pt = none) (V : Vis c s.heap env O σ) (L : Live O s.heap) (X : TabAt s.heap env Pt) (B : BAt mg s.heap) (hf : c.builtin "sorted" = true)
    (okl : compOk lsc c.sc [p] = true) (hpl : lsc.names.lookup p = some .local) (hco : lsc.isCoroutine = false) (hgen : lsc.isGenerator = false) (hbind : LamBind p ap body lsc) (ck : cE n (lamCx c lsc p) body = some key)
    (hks : ∀ (i : Nat) (d k : D), ds[i]? = some d → ks[i]? = some k → ev Φ key (σ ++ [some d]) = some k) (hok : ∀ k ∈ ks, ok k = true) (hlen : ks.length = ds.length) (h60 : ds.length ≤ 60)
    (hst : starEach [e] env = [(false, eval e env)])
    (hArg : wpAny (model prog w) A (eval e env) (fun xv s₁ => Go s s₁ ∧ ∀ h₂ tk, KPb Pt s₁.heap h₂ → Coll prog w A.in1 { s₁ with heap := h₂, toks := tk } O xv ds) E s) :
    wpAny (model prog w) A (eval (.Call (.Name "sorted" np) [e] [⟨some "key", .Lambda (lamArgs p ap) body lsc lpos, kp⟩] pos) env) (SortEnd s O Pt ks ds) E s := by
  obtain ⟨hg, hc⟩ := builtin_parts hf
  rw [fs] at hc
  show wpAny _ _ (do callWith pos (← eval (.Name "sorted" np) env) [] (backTo pos (starEach [e] env)) (backToKw pos (keywordEach [⟨some "key", .Lambda (lamArgs p ap) body lsc lpos, kp⟩] env))) _ _ _
  refine wpAny_bind (s_builtin T.base EO K hg (T.free _ (by decide) hc) (by decide) boot_sorted ?_)
  refine callWith_kw ?_ (by rw [hst]; rfl) (by rw [hst]; rfl)
  rw [hst]
  refine spliced_cons (wpAny_mono hArg (fun xv s₁ h₁ => spliced_nil ?_) fun _ _ e => e)
  obtain ⟨g1, hcoll⟩ := h₁
  refine kws_cons (s_lambda T EO okl (KP.trans K g1.kp) (X.kp g1.kp) (B.kp g1.kp) fun q h₂ tk hq kb hp => kws_nil ?_)
  have hP1 : s₁.heap.get? Pt = some (PySem.W.tabObj #[]) := by obtain ⟨c, _, _, h3⟩ := X.kp g1.kp; exact h3
  have V2 : Vis c h₂ env O σ := kb_vis hP1 kb (V.kp g1.kp)
  have L2 : Live O h₂ := kb_live kb hp (L.kp g1.kp)
  have K2 : KP h₀ h₂ := kb_kp h0 kb (KP.trans K g1.kp)
  show wpAny _ _ (call (.builtin "sorted") [xv] [(Str.ofString "key", .ref q)]) _ _ _
  refine wpAny_mono (s_sorted (s := { s₁ with heap := h₂, toks := tk }) KD L2 (hcoll h₂ tk kb) hok hlen h60 fun i v d k f hd hk' s' E' K' r o => ?_) (fun v s₃ h₃ => ?_) fun _ _ e => e
  · exact s_lam T hE (hq.kp K') (by exact Rm.in1 (Rm.in1 rm)) EO fs hk okl hpl hco hgen hbind (KP.trans K2 K') (V2.kp K') (L2.kp K') r o ck (hks i d k hd hk')
  · obtain ⟨out, hs, hpe⟩ := h₃
    obtain ⟨h1', t1, rfl, k1⟩ := g1
    exact ⟨⟨h₂, tk, out, fun b o hb e => kb b o hb (k1 b o e), hp, hs, hpe⟩⟩

/-- the argument is a list -/
theorem arg_list {e : Expr} {x : X} {ds : List D} (H : Here h₀ lv fns n A c env s O σ) (hE : SE prog w h₀ lv fns Φ n) (X : TabAt s.heap env Pt) (c1 : cE n c e = some x) (v1 : ev Φ x σ = some (.list ds)) (h60 : ds.length ≤ 60) :
    wpAny (model prog w) A (eval e env) (fun xv s₁ => Go s s₁ ∧ ∀ h₂ tk, KPb Pt s₁.heap h₂ → Coll prog w A.in1 { s₁ with heap := h₂, toks := tk } O xv ds) E s := by
  refine wpAny_mono (hE A E c env e x s O σ _ H c1 v1) (fun v s₁ h₁ => ?_) fun _ _ e => e
  obtain ⟨g1, ⟨f1, r1, o1⟩, _⟩ := h₁
  refine ⟨g1, fun h₂ tk kb => ?_⟩
  have hP1 : s₁.heap.get? Pt = some (PySem.W.tabObj #[]) := by obtain ⟨c, _, _, h3⟩ := X.kp g1.kp; exact h3
  obtain ⟨l, vs, m, f, rfl, rfl, z, h1, h4⟩ := (r1.sq (kb_seq hP1 kb)).list_is
  exact coll_list (s := { s₁ with heap := h₂, toks := tk }) h1 h4 (fun b hb => o1 b (List.mem_cons_of_mem _ hb)) h60
end
end Mine
set_option maxHeartbeats 1000000
namespace Mine
open PySem PySem.SeqAt PyProof.Rows PySem.Calls

/-- the heap without the machine's list of codes -/
noncomputable def gh (s : Shared) (Pt : Addr) : Shared := { s with heap := PySem.W.hideAll s.heap [Pt] }
theorem gh_ne {h : Heap} {Pt b : Addr} {o : Obj} (e : h.get? b = some o) (hb : b ≠ Pt) : (PySem.W.hideAll h [Pt]).get? b = some o := PySem.W.hideAll_get _ e (by simpa using hb)
theorem gh_of {h : Heap} {Pt b : Addr} {o : Obj} (e : (PySem.W.hideAll h [Pt]).get? b = some o) : h.get? b = some o := PySem.W.of_hideAll _ e
theorem gh_none {h : Heap} {Pt b : Addr} (e : h.get? b = none) : (PySem.W.hideAll h [Pt]).get? b = none := by
  cases q : (PySem.W.hideAll h [Pt]).get? b with
  | none => rfl
  | some o => rw [gh_of q] at e; cases e
theorem gh_self {h : Heap} {Pt : Addr} : (PySem.W.hideAll h [Pt]).get? Pt = none := PySem.W.hideAll_none _ (List.mem_singleton_self _)

/-- the one statement with a sorted call -/
structure SpR where
  y : Str
  py : Pos
  e : Expr
  p : Str
  ap : Pos
  lbody : Expr
  lsc : Scope
  lpos : Pos
  kp : Pos
  np : Pos
  pos : Pos
  q : Pos
  lp : Option (List Stmt)
noncomputable def SpR.call (r : SpR) : Expr := .Call (.Name "sorted" r.np) [r.e] [⟨some "key", .Lambda (lamArgs r.p r.ap) r.lbody r.lsc r.lpos, r.kp⟩] r.pos
noncomputable def SpR.stmt (r : SpR) : Stmt :=
  match r.lp with
  | none => .Assign [.Name r.y r.py] r.call r.q
  | some b => .For (.Name r.y r.py) r.call b [] r.q
/-- what it does with the sorted items -/
noncomputable def midS (Φ : List (List D → Option D)) (ipv4 : Str → Bool) (W : Nat) (i : Nat) (bd : Option S) (out : List D) (σ : List Slot) : Option (List Slot × Fl) :=
  match bd with
  | none => some (σ.set i (.frz (.list out)), .nxt)
  | some b => forL (fun d σ => run Φ ipv4 W b (σ.set i (.frz d))) out σ
noncomputable def lpOk (c : Cx) (mu : List Nat) : Option (List Stmt) → Option S → Prop
  | none, none => True
  | some b, some bd => cSs 50 c mu b = some bd
  | _, _ => False
structure SpOk (c : Cx) (mu : List Nat) (r : SpR) (i : Nat) (key : X) (bd : Option S) : Prop where
  sto : c.store? r.y = some i
  srt : c.builtin "sorted" = true
  okl : compOk r.lsc c.sc [r.p] = true
  pl : r.lsc.names.lookup r.p = some .local
  co : r.lsc.isCoroutine = false
  gen : r.lsc.isGenerator = false
  key : cE 50 (lamCx c r.lsc r.p) r.lbody = some key
  bind : LamBind r.p r.ap r.lbody r.lsc
  lp : lpOk c mu r.lp bd

section
variable {prog : Program} {w : World} {mg mb : Str → Option Value} {h₀ : Heap} {lv : Nat} {fns : List Str} {Φ : List (List D → Option D)} {ipv4 : Str → Bool} {W : Nat} {n : Nat} {A : Around} {E : Value → Shared → Prop} {c : Cx} {env : Env} {s s' s₀ : Shared} {O O' O₀ : List Addr} {σ σ' : List Slot} {P : Nat → Addr} {m cm : Str → Option Value} {Pt : Addr} {h₂ : Heap} {tk : Nat} {ps : Array Value}

theorem Fr.kb (F : Fr s₀ O₀ c env σ P m cm s) (hP : s.heap.get? Pt = some (PySem.W.tabObj ps)) (kb : KPb Pt s.heap h₂) (hp : ∃ ps, h₂.get? Pt = some (PySem.W.tabObj ps)) : Fr (gh s₀ Pt) O₀ c env σ P m cm { s with heap := h₂, toks := tk } := by
  have V := F.vals.sq (h' := h₂) (kb_seq hP kb) fun b hb e => by
    obtain ⟨o, e'⟩ := kb_live kb hp F.live b hb
    rw [e] at e'; cases e'
  obtain ⟨⟨⟨h, t, es⟩, ns, kp, fr⟩, c1, c2, c3⟩ := F.ic
  refine Vals.fr ⟨V.val, fun i l h => ?_, V.inj, V.live⟩ ⟨⟨⟨h₂, tk, by rw [es]; rfl⟩, kb_ns hP kb ns, fun b o e => ?_, ?_⟩, fun k a e => kb_cell hP kb (c1 k a e), c2, c3⟩
  · obtain ⟨vs, n, fp, z, h1, h2, h3, h4, h5⟩ := V.lst i l h
    exact ⟨vs, n, fp, z, h1, h2, h3, gh_none h4, h5⟩
  · exact kb b o (fun q => by rw [q] at e; rw [show (gh s₀ Pt).heap.get? Pt = none from gh_self] at e; cases e) (kp b o (gh_of e))
  · show (PySem.W.hideAll s₀.heap [Pt]).objs.size ≤ _
    rw [PySem.W.hideAll_size]; exact fr
theorem Body.gh (h0 : h₀.get? Pt = none) (B : Body h₀ lv fns n A c env s₀) : Body h₀ lv fns n A c env (gh s₀ Pt) :=
  ⟨B.rm, B.eo, B.fs, B.J, fun b o e => gh_ne (B.kp b o e) fun q => by rw [q, h0] at e; cases e⟩
theorem Body.le {k : Nat} (B : Body h₀ lv fns n A c env s₀) (h : k ≤ n) : Body h₀ lv fns k A c env s₀ := ⟨B.rm.le (by omega), B.eo, B.fs, B.J, B.kp⟩
/-- a statement leaves the machine's list of codes alone -/
theorem tab_keep (F : Fr s₀ O₀ c env σ P m cm s) (T : Tr env s (owns σ P) s' O') (hP : ∃ ps, s.heap.get? Pt = some (PySem.W.tabObj ps)) : ∃ ps, s'.heap.get? Pt = some (PySem.W.tabObj ps) := by
  obtain ⟨ps, hP⟩ := hP
  refine ⟨ps, T.keep _ _ hP (fun q => ?_) (fun k q => ?_) fun q => ?_⟩
  · obtain ⟨o, es, ep, e, hd, _⟩ := F.ic.toInCall.ns
    rw [← q, hP] at e; cases e; cases hd
  · obtain ⟨o, e, r⟩ := F.ic.cell k _ q
    rw [hP] at e; cases e
    first | cases r | cases r.1 | cases r.2
  · obtain ⟨i, l, h1, h2⟩ := mem_owns.mp q
    obtain ⟨vs, n, fp, _, h3, _⟩ := F.lst i l h1
    rw [h2, IsL, hP] at h3; cases h3

/-- how the statement ends -/
inductive SpEnd (s₀ : Shared) (O₀ : List Addr) (c : Cx) (env : Env) (Pt : Addr) (ks ds : List D) (md : List D → Option (List Slot × Fl)) (f : Flow) (s' : Shared) : Prop
  | mk (out : List D) (σ' : List Slot) (P' : Nat → Addr) (m' cm' : Str → Option Value) (hf : f = .next) (hs : SortOf ks ds out) (hm : md out = some (σ', .nxt)) (F : Fr (gh s₀ Pt) O₀ c env σ' P' m' cm' s') (hl : σ'.length = c.k) (hp : ∃ ps, s'.heap.get? Pt = some (PySem.W.tabObj ps)) : SpEnd s₀ O₀ c env Pt ks ds md f s'

theorem st_sorted {κ : PyProof.Rows.KeyKind} {ok : D → Bool} {kd : D → κ.α} (KD : KeyD κ ok kd) {mu : List Nat} {r : SpR} {i : Nat} {key : X} {bd : Option S} {ds ks : List D} (T : Tied prog w mg mb h₀ lv fns Φ) (hR : ∀ n, SR prog w h₀ lv fns Φ ipv4 n)
    (B : Body h₀ lv fns fuel A c env s₀) (hk : c.k = σ.length) (F : Fr s₀ O₀ c env σ P m cm s) (SO : SpOk c mu r i key bd) (h0 : h₀.get? Pt = none) (X : TabAt s.heap env Pt) (Bt : BAt mg s.heap)
    (hks : ∀ (i : Nat) (d k : D), ds[i]? = some d → ks[i]? = some k → ev Φ key (fzs σ ++ [some d]) = some k) (hok : ∀ k ∈ ks, ok k = true) (hlen : ks.length = ds.length) (h60 : ds.length ≤ 60)
    (hst : starEach [r.e] env = [(false, eval r.e env)])
    (hArg : ∀ E, wpAny (model prog w) A (eval r.e env) (fun xv s₁ => Go s s₁ ∧ ∀ h₂ tk, KPb Pt s₁.heap h₂ → Coll prog w A.in1 { s₁ with heap := h₂, toks := tk } (O₀ ++ owns σ P) xv ds) E s)
    (hmid : ∀ out, SortOf ks ds out → ∃ σ', midS Φ ipv4 W i bd out σ = some (σ', .nxt)) :
    wpAny (model prog w) A (exec r.stmt env) (SpEnd s₀ O₀ c env Pt ks ds fun out => midS Φ ipv4 W i bd out σ) E s := by
  have B5 : Body h₀ lv fns 50 A c env s₀ := B.le (by decide)
  have H := hereF B5 hk F
  have hP : s.heap.get? Pt = some (PySem.W.tabObj #[]) := by obtain ⟨c, _, _, h3⟩ := X; exact h3
  have ev1 : ∀ E, wpAny (model prog w) A (eval r.call env) (SortEnd s (O₀ ++ owns σ P) Pt ks ds) E s := fun E =>
    e_sorted KD T (tE T 50) (B.rm.le (by show 50 + lv + 3 ≤ 60 + lv; omega)) B.eo B.fs H.k H.kp h0 H.vis H.live X Bt SO.srt SO.okl SO.pl SO.co SO.gen SO.bind SO.key hks hok hlen h60 hst (hArg E)
  have Bg := B5.gh h0
  have lp := SO.lp
  unfold SpR.stmt
  cases hlp : r.lp with
  | none =>
    rw [hlp] at lp
    cases bd with
    | some _ => exact lp.elim
    | none =>
      refine wpAny_Assign_Name (wpAny_mono (ev1 E) (fun v s₃ h₃ => ?_) fun _ _ e => e) rfl
      obtain ⟨h₂, tk, out, kb, hp, hs, hpe⟩ := h₃
      have F2 : Fr (gh s₀ Pt) O₀ c env σ P m cm { s with heap := h₂, toks := tk } := F.kb hP kb hp
      refine wpAny_mono (put_slot (o := false) Bg F2 SO.sto hpe (fun q => nomatch q)) (fun _ s₄ h₄ => ?_) fun _ _ e => e
      obtain ⟨P', m', cm', F', T', _⟩ := h₄
      exact ⟨out, _, P', m', cm', rfl, hs, rfl, F', by rw [List.length_set, hk], tab_keep F2 T' hp⟩
  | some b =>
    rw [hlp] at lp
    cases bd with
    | none => exact lp.elim
    | some bd =>
      refine wpAny_For ?_ (notSet_fold rfl)
      refine wpAny_mono (ev1 _) (fun v s₃ h₃ => ?_) fun _ _ e => e
      obtain ⟨h₂, tk, out, kb, hp, hs, hpe⟩ := h₃
      have F2 : Fr (gh s₀ Pt) O₀ c env σ P m cm { s with heap := h₂, toks := tk } := F.kb hP kb hp
      obtain ⟨g, ⟨fp, rv, ov⟩, _⟩ := hpe
      have F3 := F2.go g
      have hp3 : ∃ ps, s₃.heap.get? Pt = some (PySem.W.tabObj ps) := by obtain ⟨ps, hp⟩ := hp; exact ⟨ps, g.kp _ _ hp⟩
      obtain ⟨σ', hm⟩ := hmid out hs
      refine wpAny_mono (s_iter (O := O₀ ++ owns σ P) (ds := out) rfl rv ov) (fun iv s₄ hit => ?_) fun _ _ e => e
      have hm' : forL (fun d σ => (some (σ.set i (.frz d))).bind (run Φ ipv4 W bd)) out σ = some (σ', .nxt) := hm
      refine codeAny_mono (for_loop (put := fun d σ => some (σ.set i (.frz d))) (all_S (W := W) T hR 50).2 Bg hk F3 lp hit (fun _ _ _ _ _ _ _ _ _ _ hQ => wpAny_pure hQ) (fun E O₁ σ σ₁ P m cm s v d fq F hk r o hp => ?_) hm') fun r s₅ h₅ => ?_
      · cases hp
        refine wpAny_assign_Name (wpAny_mono (store_frz B.eo B.J F SO.sto r (off_sub o (sub_app owns_frz))) (fun _ s' h => ?_) fun _ _ e => e)
        obtain ⟨m', cm', F', T', _⟩ := h
        exact ⟨P, m', cm', F', List.length_set .., T'⟩
      · obtain ⟨f, rfl, h₅⟩ := h₅
        obtain ⟨P', m', cm', F', T', hl, hf⟩ := h₅
        exact ⟨out, σ', P', m', cm', hf, hs, hm, F', hl, tab_keep F3 T' hp3⟩
end
end Mine
set_option maxHeartbeats 1000000
namespace Mine
open PySem PySem.SeqAt PyProof.Rows PySem.Calls PySem.W

theorem execs_app {env : Env} (b : List Stmt) : ∀ a : List Stmt, execs (a ++ b) env = (execs a env >>= fun f => match f with | .next => execs b env | f => pure f)
  | [] => by rw [List.nil_append, execs_nil, pure_bind]
  | st :: a => by
    rw [List.cons_append, execs_cons, execs_cons, bind_assoc]
    congr 1
    funext f
    cases f with
    | next => exact execs_app b a
    | _ => rw [pure_bind]

/-- the law has given back True -/
structure LawEnd (s : Shared) (Pt : Addr) (r : Result) (s' : Shared) : Prop where
  res : r = .ok (.ret (.bool true))
  go : Go (gh s Pt) s'
  tab : ∃ ps, s'.heap.get? Pt = some (tabObj ps)

section
variable {prog : Program} {w : World} {mg mb : Str → Option Value} {h₀ : Heap} {lv : Nat} {fns : List Str} {Φ : List (List D → Option D)} {ip : Str → Bool} {W : Nat} {A : Around} {s : Shared} {Pt c₀ : Addr}

/-- what the sorted call's argument gives -/
noncomputable def ArgOk (prog : Program) (w : World) (h₀ : Heap) (lv : Nat) (fns : List Str) (c : Cx) (Pt : Addr) (e : Expr) (σ : List (Option D)) (ds : List D) : Prop :=
  ∀ (A : Around) (env : Env) (s : Shared) (O : List Addr), Here h₀ lv fns 50 A c env s O σ → TabAt s.heap env Pt →
    starEach [e] env = [(false, eval e env)] ∧ ∀ E, wpAny (model prog w) A (eval e env) (fun xv s₁ => Go s s₁ ∧ ∀ h₂ tk, KPb Pt s₁.heap h₂ → Coll prog w A.in1 { s₁ with heap := h₂, toks := tk } O xv ds) E s
theorem arg_ok {c : Cx} {e : Expr} {x : X} {σ : List (Option D)} {ds : List D} (T : Tied prog w mg mb h₀ lv fns Φ) (c1 : cE 50 c e = some x) (v1 : ev Φ x σ = some (.list ds)) (h60 : ds.length ≤ 60) : ArgOk prog w h₀ lv fns c Pt e σ ds :=
  fun A env s O H X => ⟨cE_plain c1 [], fun E => arg_list H (tE T 50) X c1 v1 h60⟩

/-- what the law does, whatever order the keys allow -/
structure LawRun (prog : Program) (w : World) (h₀ : Heap) (lv : Nat) (fns : List Str) (Φ : List (List D → Option D)) (ip : Str → Bool) (W : Nat) (c : Cx) (Pt : Addr) (r : SpR) (Sa Sb : S) (key : X) (i : Nat) (bd : Option S) (σ₀ : List Slot) : Prop where
  is : ∃ (σ₁ : List Slot) (fz : List Nat) (ds ks : List D), run Φ ip W Sa σ₀ = some (σ₁, .nxt) ∧ ArgOk prog w h₀ lv fns c Pt r.e (fzs (freezeAt σ₁ fz)) ds ∧
    (∀ (i : Nat) (d k : D), ds[i]? = some d → ks[i]? = some k → ev Φ key (fzs (freezeAt σ₁ fz) ++ [some d]) = some k) ∧ (∀ k ∈ ks, isS k = true) ∧ ks.length = ds.length ∧ ds.length ≤ 60 ∧
    ∀ out, SortOf ks ds out → ∃ σ₃ σ₄, midS Φ ip W i bd out (freezeAt σ₁ fz) = some (σ₃, .nxt) ∧ run Φ ip W Sb σ₃ = some (σ₄, .ret (.bool true))

theorem fn_sorted {name : Str} {params : Arguments} {body pre post : List Stmt} {sc : Scope} {a : Addr} {o : Obj} {pm doc : Value} {vs : List Value} {args : List D} {fp : List Addr} {r : SpR} {Sa Sb : S} {key : X} {i : Nat} {bd : Option S} {mu : List Nat}
    (T : Tied prog w mg mb h₀ lv fns Φ) (hR : ∀ n, SR prog w h₀ lv fns Φ ip n) (ho : h₀.get? a = some o) (hd : o.data = .func (docDef name params body sc pm (.ref c₀) doc)) (hc : h₀.CodeRec (.ref c₀) name) (hok : headOk params sc = true)
    (hbind : bindArgs (docDef name params body sc pm (.ref c₀) doc) ⟨vs, []⟩ = pure ((params.args.map (·.arg)).zip vs)) (hrm : Rm (lv + fuel + 1) A) (K : KP h₀ s.heap) (rs : Rds s.heap vs args fp) (hlen : args.length = params.args.length)
    (h0 : h₀.get? Pt = none) (C : CodeHd s.heap c₀ Pt) (hP : s.heap.get? Pt = some (tabObj #[])) (Bt : BAt mg s.heap)
    (hbody : body = pre ++ r.stmt :: post) (ca : cSs fuel (headCx fns sc) mu pre = some Sa) (cb : cSs fuel (headCx fns sc) mu post = some Sb) (SO : SpOk (headCx fns sc) mu r i key bd)
    (LR : LawRun prog w h₀ lv fns Φ ip W (headCx fns sc) Pt r Sa Sb key i bd (args.map Slot.frz ++ List.replicate ((slotsOf sc).length - args.length) Slot.unset)) :
    codeAny (model prog w) A (.call (.ref a) ⟨vs, []⟩) (LawEnd s Pt) s := by
  refine fn_enter (O := []) T ho hd hc hok hbind hrm K (fun _ h => nomatch h) rs (fun _ _ h => nomatch h) hlen fun s₁ m cm E B hσl F => ?_
  obtain ⟨σ₁, fz, ds, ks, ra, hA, hks, hkind, hkl, h60, hfin⟩ := LR
  have hall := (all_S (W := W) T hR fuel).2
  generalize henv : callEnvC (docDef name params body sc pm (.ref c₀) doc) s.heap.objs.size a = env at B F ⊢
  have hcode : env.code = .ref c₀ := by rw [← henv]; rfl
  rw [hbody, execs_app]
  refine wpAny_bind (wpAny_mono (hall _ _ _ _ _ pre Sa s s₁ [] _ σ₁ _ _ _ _ B hσl F ca ra) (fun f s₂ h₂ => ?_) fun _ _ e => e)
  obtain ⟨P₁, m₁, cm₁, F₁, _, hl₁, hf⟩ := h₂
  cases hf
  obtain ⟨V₁, _, hl₂⟩ := freezes fz F₁.vals
  have F₂ := V₁.fr F₁.ic
  have hk₂ : (headCx fns sc).k = (freezeAt σ₁ fz).length := by rw [hl₂]; exact hl₁.symm
  have X : TabAt s₂.heap env Pt := ⟨c₀, hcode, C.keeps F₁.gs.kp, F₁.gs.kp _ _ hP⟩
  have B5 := B.le (k := 50) (by decide)
  have hAr : ∀ (O : List Addr), Here h₀ lv fns 50 (A.deeper env) (headCx fns sc) env s₂ O (fzs (freezeAt σ₁ fz)) → _ := fun O H => hA (A.deeper env) env s₂ O H X
  obtain ⟨hst, hArg⟩ := hAr _ (hereF B5 hk₂ F₂)
  have key1 : wpAny (model prog w) (A.deeper env) (exec r.stmt env) (SpEnd s [] (headCx fns sc) env Pt ks ds fun out => midS Φ ip W i bd out (freezeAt σ₁ fz)) E s₂ := by
    exact st_sorted keyS T hR B hk₂ F₂ SO h0 X (Bt.kp F₁.gs.kp) hks hkind hkl h60 hst hArg fun out hs => let ⟨σ₃, _, h, _⟩ := hfin out hs; ⟨σ₃, h⟩
  refine wpAny_execs_cons (wpAny_mono key1 (fun f s₃ h₃ => ?_) fun _ _ e => e)
  obtain ⟨out, σ₃, P₃, m₃, cm₃, rfl, hs, hm, F₃, hl₃, hp₃⟩ := h₃
  obtain ⟨σ₃', σ₄, hm', rb⟩ := hfin out hs
  rw [show midS Φ ip W i bd out (freezeAt σ₁ fz) = some (σ₃, .nxt) from hm] at hm'
  cases hm'
  refine wpAny_mono (hall _ _ _ _ _ post Sb (gh s Pt) s₃ [] _ σ₄ _ _ _ _ (B.gh h0) hl₃.symm F₃ cb rb) (fun f s₄ h₄ => ?_) fun _ _ e => e
  obtain ⟨P₄, m₄, cm₄, F₄, T₄, _, v, fq, rfl, rv, _⟩ := h₄
  cases rv
  exact ⟨rfl, F₄.gs, tab_keep F₃ T₄ hp₃⟩
end

/-- the same, with no program in sight -/
structure LawPure (Φ : List (List D → Option D)) (ip : Str → Bool) (W : Nat) (Sa Sb : S) (it key : X) (i : Nat) (bd : Option S) (σ₀ : List Slot) : Prop where
  is : ∃ (σ₁ : List Slot) (fz : List Nat) (ds ks : List D), run Φ ip W Sa σ₀ = some (σ₁, .nxt) ∧ ev Φ it (fzs (freezeAt σ₁ fz)) = some (.list ds) ∧
    (∀ (i : Nat) (d k : D), ds[i]? = some d → ks[i]? = some k → ev Φ key (fzs (freezeAt σ₁ fz) ++ [some d]) = some k) ∧ (∀ k ∈ ks, isS k = true) ∧ ks.length = ds.length ∧ ds.length ≤ 60 ∧
    ∀ out, SortOf ks ds out → ∃ σ₃ σ₄, midS Φ ip W i bd out (freezeAt σ₁ fz) = some (σ₃, .nxt) ∧ run Φ ip W Sb σ₃ = some (σ₄, .ret (.bool true))
theorem LawPure.run {prog : Program} {w : World} {h₀ : Heap} {lv : Nat} {fns : List Str} {Φ : List (List D → Option D)} {ip : Str → Bool} {W : Nat} {c : Cx} {Pt : Addr} {r : SpR} {Sa Sb : S} {it key : X} {i : Nat} {bd : Option S} {σ₀ : List Slot}
    (h : LawPure Φ ip W Sa Sb it key i bd σ₀) (ha : ∀ τ ds, ev Φ it τ = some (.list ds) → ds.length ≤ 60 → ArgOk prog w h₀ lv fns c Pt r.e τ ds) : LawRun prog w h₀ lv fns Φ ip W c Pt r Sa Sb key i bd σ₀ := by
  obtain ⟨σ₁, fz, ds, ks, h1, h2, h3, h4, h5, h6, h7⟩ := h
  exact ⟨⟨σ₁, fz, ds, ks, h1, ha _ ds h2 h6, h3, h4, h5, h6, h7⟩⟩

/-- the law's call -/
theorem jointN {l : OpenLaw} {q : Program} {loose : List Str} {XP : (Str → Option Value) → Heap → Prop} {YP : World → Heap → Prop} {d : DefRec} {kwd : List (Str × Expr)} {most : Nat} (hmost : l.most = some most) (hsm : most ≤ 16777216) (hbd : l.bound = none)
    (H : ∀ (w : World) (s₀ s₁ : Shared) (mg mb : Str → Option Value), Ground q loose [] XP w s₀ mg mb s₁.heap → YP w s₁.heap → ∃ c₀ Pt, CodeHd s₁.heap c₀ Pt ∧ s₁.heap.get? Pt = some (tabObj #[]) ∧
      ∀ a, mg d.name = some (.ref a) → ∀ (is : List Int) (v : Value) (fp : List Addr), is.length ≤ most → Rd s₁.heap v (.list (is.map .int)) fp → codeAny (model l.prog w) callerA (.call (.ref a) ⟨[v], []⟩) (LawEnd s₁ Pt) s₁) :
    WalkO q loose XP YP l.row.toRowW d kwd fun f vs => PySem.call f vs := by
  intro w s₀ s₁ mg mb G Y a o pm cd doc dV kV ho hd hc hD hm hg args vals as hpre hlay hrd hwell hlow
  obtain ⟨c₀, Pt, C, hP, hcall⟩ := H w s₀ s₁ mg mb G Y
  obtain ⟨hsh, hp⟩ := pre_splitW hpre
  obtain ⟨x, r, rfl, hx, hr⟩ := hasAllW_cons (e := .list .int) (es := []) hsh
  obtain rfl := hasAllW_nil hr
  cases hwell with
  | @cons v vs _ _ hv hvs =>
    cases hvs
    have hsrc : ∃ (is : List Int) (fp : List Addr), is.length ≤ most ∧ Rd s₁.heap v (.list (is.map .int)) fp := by
      cases hv with
      | @list b ws xs hb hw =>
        have hx0 : WShape.has [] (.list xs) (.list .int) = true := hx
        have hx' : WShape.hasItems [] xs .int = true := (Bool.or_false _).symm.trans hx0
        obtain ⟨is, e, r⟩ := dataOfInts hw hx'
        have hp' : (WTm.holds [] l.pre { args := [.list xs] }) = true := hp
        have hlen : is.length ≤ most := by
          unfold OpenLaw.pre at hp'
          rw [hmost, hbd] at hp'
          rcases Nat.lt_or_ge most is.length with q | q
          · exfalso
            have q' : decide ((most : Int) < ((is.length : Nat) : Int)) = true := by simpa using q
            simp [WTm.holds, WTm.value, less?, e] at hp'
            rw [show Num.less? (WData.int (most : Int)) (WData.int (is.length : Int)) = some true from congrArg some q'] at hp'
            simp at hp'
          · exact q
        have hwt : ws.toArray.size ≤ 16777216 := by
          have := r.length
          rw [List.length_map] at this
          rw [List.size_toArray]; omega
        exact ⟨is, _, hlen, .list hwt hb r⟩
      | _ => exact noB (show WShape.has [] _ (.list .int) = true from hx)
    obtain ⟨is, fp, hlen, rd⟩ := hsrc
    refine wpAny_call (codeAny_mono (kn_post (cw := l.row.toRowW.claim) (cl := classAt s₀.heap) (mean := ExcName.means s₀.heap) (args := [x]) (tabs := [(c₀, Pt)]) (fun q hq => by rw [List.mem_singleton.mp hq]; exact ⟨C, hP⟩) (fun _ _ => by exact rfl) (codeAny_mono (hcall a hm is v fp hlen rd) fun r s' hr => ?_)) fun r s' g => ?_)
    rotate_left
    · cases r with
      | ok f => cases f with
        | ret v => exact g
        | _ => obtain ⟨⟨_, _, _, e, _⟩ | ⟨_, _, _, e, _⟩, _⟩ := g <;> cases e
      | error e => exact g
    obtain ⟨rfl, ⟨h', tk, rfl, kp⟩, ps, hps⟩ := hr
    refine ⟨⟨.inl ⟨_, .bool true, [], rfl, fun cls => rfl, .bool _, ?_, fun _ => ⟨List.nodup_nil, fun _ h => nomatch h⟩⟩, kp, rfl, hg⟩, ⟨ps, hps⟩, trivial⟩
    show (WShape.has [] (.bool true) .bool && WTm.holds [] (.eq .res (.lit (.bool true))) { args := [x], res := some (.bool true), after := [x] }) = true
    simp [WShape.has, WShape.arms, WTm.holds, WTm.value, same]
end Mine
namespace Mine
open PySem PySem.SeqAt PyProof.Rows PySem.Calls PySem.W

section
variable {prog : Program} {w : World} {mg mb : Str → Option Value} {h₁ : Heap} {lv : Nat} {fns : List Str} {Φ : List (List D → Option D)} {W : Nat} {p c₀ Pt : Addr} {q : Program} {loose : List Str} {R : WRecords} {XP : (Str → Option Value) → Heap → Prop} {s₀ : Shared}

theorem gh_get {b : Addr} {o : Obj} (hP : h₁.get? Pt = some (tabObj #[])) (e : h₁.get? b = some o) (hn : o ≠ tabObj #[]) : (hideAll h₁ [Pt]).get? b = some o :=
  gh_ne e fun k => hn (by rw [k, hP] at e; cases e; rfl)
theorem gh_ns {a : Addr} {m : Str → Option Value} (hP : h₁.get? Pt = some (tabObj #[])) (x : h₁.Ns a m) : (hideAll h₁ [Pt]).Ns a m :=
  let ⟨o, es, ep, e, hd, r⟩ := x; ⟨o, es, ep, gh_get hP e (fun k => by rw [k] at hd; cases hd), hd, r⟩
theorem gh_rec {code : Value} {x : Str} (hP : h₁.get? Pt = some (tabObj #[])) (h : h₁.CodeRec code x) : (hideAll h₁ [Pt]).CodeRec code x := by
  obtain ⟨c, o, vs, t, e, g, hd, hv⟩ := h
  refine ⟨c, o, vs, t, e, gh_get hP g (fun k => ?_), hd, hv⟩
  rw [k] at hd; cases hd; cases hv

theorem base_gh (G : Ground q loose R XP w s₀ mg mb h₁) (hP : h₁.get? Pt = some (tabObj #[])) (hf : ∀ x ∈ bnames, mg x = none) : Tied prog w mg mb (hideAll h₁ [Pt]) 0 [] [] :=
  ⟨⟨gh_ns hP G.T.g, gh_ns hP G.T.b, let ⟨mc, a, r⟩ := G.T.nolimit; ⟨mc, gh_ns hP a, r⟩, G.T.builtins⟩, fun x hx _ => hf x hx, fun i f g h => by simp at h⟩

theorem fn_gh {name : Str} {d : DefRec} {S : S} {k ar : Nat} (G : Ground q loose R XP w s₀ mg mb h₁) (hP : h₁.get? Pt = some (tabObj #[])) (T : Tied prog w mg mb (hideAll h₁ [Pt]) lv fns Φ)
    (hm : mg "IPV4_RE" = some (.ref p)) (H : Pat (hideAll h₁ [Pt]) p) (D : DefIs q name fns d S k ar) : CallOk prog w mg (hideAll h₁ [Pt]) (lv + 61) name (fnOut Φ ipv4 W S k ar) := by
  obtain ⟨a, o, pm, cd, doc, dV, kV, h1, h2, h3, h4, h5⟩ := G.fn D.is
  have hn := defOf_name D.is
  have hdV : dV = .none := by
    rcases h5.pos with h | h
    · exact h.2
    · exact absurd D.nodef h.1
  have hkV : kV = .none := by
    rcases h5.kw with h | h
    · exact h.2
    · exact absurd rfl h.1
  subst hdV; subst hkV; subst hn
  exact fn_ok T (search_ok T hm H) h1 (gh_get hP h2 fun k => by rw [k] at h3; cases h3) h3 (gh_rec hP h4) D.comp D.bind

/-- a law with one sorted statement: its facts, decided once -/
structure LawIs (q : Program) (name : Str) (fns : List Str) (d : DefRec) (r : SpR) (ix : Nat) (Sa Sb : S) (key : X) (i : Nat) (bd : Option S) (k : Nat) : Prop where
  is : PySem.W.defOf q name = some (d, [])
  nodef : d.params.defaults = []
  head : headOk d.params d.scope = true
  one : d.params.args.length = 1
  slots : (slotsOf d.scope).length = k
  cut : d.body = d.body.take ix ++ r.stmt :: d.body.drop (ix + 1)
  ca : cSs fuel (headCx fns d.scope) (headMu fns d.body d.scope) (d.body.take ix) = some Sa
  cb : cSs fuel (headCx fns d.scope) (headMu fns d.body d.scope) (d.body.drop (ix + 1)) = some Sb
  so : SpOk (headCx fns d.scope) (headMu fns d.body d.scope) r i key bd
  bind : ∀ pm code doc v, bindArgs (docDef d.name d.params d.body d.scope pm code doc) ⟨[v], []⟩ = pure ((d.params.args.map (·.arg)).zip [v])

theorem law_of {s₁ : Shared} {name : Str} {d : DefRec} {r : SpR} {ix i k : Nat} {Sa Sb : S} {key : X} {bd : Option S} {a : Addr} {v : Value} {is : List Int} {fp : List Addr} (hlv : lv ≤ 500) (G : Ground q loose R XP w s₀ mg mb s₁.heap) (C : CodeHd s₁.heap c₀ Pt) (hP : s₁.heap.get? Pt = some (tabObj #[]))
    (T : Tied prog w mg mb (hideAll s₁.heap [Pt]) lv fns Φ) (hm : mg "IPV4_RE" = some (.ref p)) (H : Pat (hideAll s₁.heap [Pt]) p) (D : LawIs q name fns d r ix Sa Sb key i bd k)
    (hcode : ∀ a o fd, mg name = some (.ref a) → s₁.heap.get? a = some o → o.data = .func fd → fd.code = .ref c₀) (ha : mg name = some (.ref a)) (rd : Rd s₁.heap v (.list (is.map .int)) fp)
    (LR : LawRun prog w (hideAll s₁.heap [Pt]) lv fns Φ ipv4 W (headCx fns d.scope) Pt r Sa Sb key i bd (.frz (.list (is.map .int)) :: List.replicate (k - 1) .unset)) :
    codeAny (model prog w) callerA (.call (.ref a) ⟨[v], []⟩) (LawEnd s₁ Pt) s₁ := by
  obtain ⟨a', o, pm, cd, doc, dV, kV, h1, h2, h3, h4, h5⟩ := G.fn D.is
  have hn := defOf_name D.is
  have hdV : dV = .none := by
    rcases h5.pos with h | h
    · exact h.2
    · exact absurd D.nodef h.1
  have hkV : kV = .none := by
    rcases h5.kw with h | h
    · exact h.2
    · exact absurd rfl h.1
  subst hdV; subst hkV; subst hn
  rw [ha] at h1; cases h1
  have hcd : cd = .ref c₀ := hcode a o _ ha h2 h3
  subst hcd
  obtain ⟨bm, ob, b1, b2, b3, b4, b5, b6⟩ := G.T.bmain
  refine fn_sorted (W := W) (args := [.list (is.map .int)]) T (search_ok T hm H) (gh_get hP h2 fun k => by rw [k] at h3; cases h3) h3 (gh_rec hP h4) D.head (D.bind _ _ _ v) (callerRm (by show lv + 60 + 1 ≤ 600; omega)) (fun b o e => gh_of e) (.cons rd .nil) D.one.symm gh_self C hP ⟨bm, ob, b1, b2, b3, b4, b5, b6⟩ D.cut D.ca D.cb D.so ?_
  show LawRun prog w _ lv fns Φ ipv4 W (headCx fns d.scope) Pt r Sa Sb key i bd (.frz (.list (is.map .int)) :: List.replicate ((slotsOf d.scope).length - 1) .unset)
  rw [D.slots]
  exact LR
end
end Mine
namespace Mine
open PySem

section
variable {Φ : List (List D → Option D)} {W : Nat} {σ σ₁ : List Slot} {fl : Fl} {a b : S} {i : Nat} {x : X} {d : D} {o : Bool} {ip : Str → Bool}
theorem run_seq (h : run Φ ip W a σ = some (σ₁, .nxt)) : run Φ ip W (.seq a b) σ = run Φ ip W b σ₁ := by simp only [run, h, Option.bind_some]
theorem run_stop (h : run Φ ip W a σ = some (σ₁, fl)) (hf : fl ≠ .nxt) : run Φ ip W (.seq a b) σ = some (σ₁, fl) := by
  simp only [run, h, Option.bind_some]
  cases fl <;> first | rfl | exact absurd rfl hf
theorem run_one : run Φ ip W (.seq a .skip) σ = run Φ ip W a σ := by
  simp only [run]
  cases run Φ ip W a σ with
  | none => rfl
  | some r => obtain ⟨s, f⟩ := r; cases f <;> rfl
theorem run_assign (h : ev Φ x (fzs σ) = some d) : run Φ ip W (.assign i [] o x) σ = some (σ.set i (mkSlot o d), .nxt) := by simp only [run, evB, h, Option.map_some]
theorem run_for {ds : List D} (h : ev Φ x (fzs σ) = some d) (hd : items d = some ds) : run Φ ip W (.for1 i [] x b) σ = forL (fun d σ => run Φ ip W b (σ.set i (.frz d))) ds σ := by simp only [run, evI, h, hd, Option.map_some, Option.bind_some]
theorem run_ite {c : Bool} (h : ev Φ x (alls σ) = some d) (hc : truth d = some c) : run Φ ip W (.ite x a b) σ = if c then run Φ ip W a σ else run Φ ip W b σ := by simp only [run, h, hc, Option.bind_some]
theorem run_ret (h : ev Φ x (alls σ) = some d) : run Φ ip W (.ret x) σ = some (σ, .ret d) := by simp only [run, h, Option.map_some]
theorem run_append {l : List D} (ho : ownAt σ i = some l) (hz : l.length < 16777216) (h : ev Φ x (alls σ) = some d) (hs : scalar d = true) : run Φ ip W (.append i x) σ = some (σ.set i (.own (l ++ [d])), .nxt) := by
  simp only [run, ho, h, hs, Option.bind_some, if_pos hz, if_true, Option.map_some]
theorem fn_ret {n ar : Nat} {args : List D} (hl : args.length = ar) (h : run Φ ip W b (args.map .frz ++ List.replicate (n - args.length) .unset) = some (σ₁, .ret d)) : fnOut Φ ip W b n ar args = some d := by
  unfold fnOut; rw [if_pos hl, h]
end

/-- a while loop that comes to its end: the measure goes down, or it breaks off -/
theorem whileL_inv {t : List Slot → Option Bool} {f : List Slot → Option (List Slot × Fl)} (I : Nat → List Slot → Prop) (Q : List Slot → Prop) (hs : ∀ n σ, I n σ → ∃ b, t σ = some b ∧ (b = false → Q σ) ∧ (b = true → ∃ σ' fl, f σ = some (σ', fl) ∧ ((fl = .brk ∧ Q σ') ∨ ((fl = .nxt ∨ fl = .cnt) ∧ ∃ k, k < n ∧ I k σ')))) :
    ∀ (n : Nat) (W : Nat) (σ : List Slot), n < W → I n σ → ∃ σ', whileL t f W σ = some (σ', .nxt) ∧ Q σ'
  | n, 0, σ, h, _ => absurd h (Nat.not_lt_zero _)
  | n, W + 1, σ, h, hi => by
    obtain ⟨b, ht, h1, h2⟩ := hs n σ hi
    rw [whileL, ht]
    cases b with
    | false => exact ⟨σ, rfl, h1 rfl⟩
    | true =>
      obtain ⟨σ', fl, e, hc⟩ := h2 rfl
      show ∃ σ', (f σ).bind _ = _ ∧ _
      rw [e]
      rcases hc with ⟨rfl, hq⟩ | ⟨hf, k, hk, hik⟩
      · exact ⟨σ', rfl, hq⟩
      · obtain ⟨σ'', e2, hq⟩ := whileL_inv I Q hs k W σ' (by omega) hik
        refine ⟨σ'', ?_, hq⟩
        rcases hf with rfl | rfl <;> exact e2

end Mine
namespace Mine
open PySem

/-- a figure -/
abbrev dig (c : Nat) : Bool := Sre.isDigit c
/-- figures to the end, one line feed aside; b: one was seen -/
noncomputable def figs : Bool → List Nat → Bool
  | b, [] => b
  | b, c :: r => if dig c then figs true r else b && c == 10 && r.isEmpty
/-- a dot and figures at the end -/
noncomputable def ipL : List Nat → Bool
  | [] => false
  | c :: r => (c == 46 && figs false r) || ipL r

theorem getD_drop {l : List Nat} {p c : Nat} {r : List Nat} (h : l.drop p = c :: r) : l.toArray.getD p 0 = c := by
  have : l[p]? = some c := by rw [← List.head?_drop, h]; rfl
  obtain ⟨h1, h2⟩ := List.getElem?_eq_some_iff.mp this
  simp [Array.getD, h1, h2]
theorem drop_succ {l : List Nat} {p c : Nat} {r : List Nat} (h : l.drop p = c :: r) : l.drop (p + 1) = r := by
  rw [← List.tail_drop, h]; rfl
theorem figs_dg (l : List Nat) : ∀ (n p : Nat) (b : Bool), n + p = l.length → figs b (l.drop p) =
    ((b || decide (1 ≤ dg l.toArray n p)) && (p + dg l.toArray n p == l.length || (p + dg l.toArray n p + 1 == l.length && l.toArray.getD (p + dg l.toArray n p) 0 == 10)))
  | 0, p, b, h => by
    have : l.drop p = [] := by simp; omega
    rw [this]
    simp only [figs, dg]
    have hp : p = l.length := by omega
    simp [hp]
  | n + 1, p, b, h => by
    cases hd : l.drop p with
    | nil => have := congrArg List.length hd; simp at this; omega
    | cons c r =>
      have hc := getD_drop hd
      have hr := drop_succ hd
      simp only [figs, dg, hc]
      by_cases hdg : Sre.isDigit c = true
      · rw [if_pos hdg, if_pos hdg, ← hr, figs_dg l n (p + 1) true (by omega)]
        have e : p + 1 + dg l.toArray n (p + 1) = p + (dg l.toArray n (p + 1) + 1) := by omega
        rw [e]; simp
      · rw [if_neg hdg, if_neg hdg]
        simp only [Nat.add_zero, hc]
        have hl : (p == l.length) = false := by simp; omega
        have hl2 : (p + 1 == l.length) = r.isEmpty := by
          have := congrArg List.length hd
          simp at this
          cases r with
          | nil => simp at this ⊢; omega
          | cons _ _ => simp at this ⊢; omega
        rw [hl, hl2]
        cases b <;> simp [Bool.and_comm]

theorem hitAt_ip (l : List Nat) (s : Nat) : hitAt l.toArray s = (match l.drop s with | [] => false | c :: r => c == 46 && figs false r) := by
  unfold hitAt
  cases hd : l.drop s with
  | nil => have := congrArg List.length hd; simp at this; simp; omega
  | cons c r =>
    have hlen := congrArg List.length hd
    simp at hlen
    have hc := getD_drop hd
    rw [hc, ← drop_succ hd]
    have hs : s < l.length := by omega
    show _ = (c == 46 && figs false (List.drop (s + 1) l))
    rw [figs_dg l (l.length - (s + 1)) (s + 1) false (by omega)]
    simp only [List.size_toArray, hs, decide_true, Bool.true_and, Bool.false_or, Bool.and_assoc]

theorem hitFrom_ip (l : List Nat) : ∀ (n s : Nat), n + s = l.length + 1 → hitFrom l.toArray n s = ipL (l.drop s)
  | 0, s, h => by
    have : l.drop s = [] := by simp; omega
    rw [this]; rfl
  | n + 1, s, h => by
    rw [hitFrom, hitAt_ip, hitFrom_ip l n (s + 1) (by omega)]
    cases hd : l.drop s with
    | nil => have : l.drop (s + 1) = [] := by simp at hd ⊢; omega
             rw [this]; rfl
    | cons c r => rw [drop_succ hd]; rfl

theorem ipv4_l (l : List Nat) : ipv4 (mkS l) = ipL l := by
  show hits l.toArray = _
  unfold hits
  rw [hitFrom_ip l _ 0 (by simp)]; rfl

/-- the automaton: 0 no dot and figures open, 1 behind a dot, 2 behind figures, 3 behind the line feed -/
noncomputable def stp (q c : Nat) : Nat := if c = 46 then 1 else if dig c then (if q = 1 ∨ q = 2 then 2 else 0) else if c = 10 ∧ q = 2 then 3 else 0
noncomputable def acc (q : Nat) : Bool := q == 2 || q == 3
noncomputable def runQ (q : Nat) (l : List Nat) : Nat := l.foldl stp q
theorem runQ_cons {q c : Nat} {l : List Nat} : runQ q (c :: l) = runQ (stp q c) l := rfl
theorem runQ_append {q : Nat} {a b : List Nat} : runQ q (a ++ b) = runQ (runQ q a) b := List.foldl_append
theorem not_dig46 : dig 46 = false := by decide
theorem not_dig10 : dig 10 = false := by decide

theorem runQ_acc : ∀ (l : List Nat), (acc (runQ 0 l) = ipL l) ∧ (acc (runQ 1 l) = (figs false l || ipL l)) ∧ (acc (runQ 2 l) = (figs true l || ipL l)) ∧ (acc (runQ 3 l) = (l.isEmpty || ipL l))
  | [] => ⟨rfl, rfl, rfl, rfl⟩
  | c :: r => by
    obtain ⟨h0, h1, h2, h3⟩ := runQ_acc r
    simp only [runQ_cons, ipL, figs]
    by_cases hc : c = 46
    · subst hc
      simp [stp, h1, not_dig46]
    · have hc' : (c == 46) = false := by simpa using hc
      by_cases hd : dig c = true
      · simp only [stp, hc, hd, if_true, if_false, hc']
        simp [h0, h2]
      · by_cases hn : c = 10
        · subst hn
          simp [stp, h0, h3, not_dig10]
        · have hd' : dig c = false := by simpa using hd
          have hn' : (c == 10) = false := by simpa using hn
          simp [stp, hc, hd', hn, h0, hc', hn']

theorem ipL_q (l : List Nat) : ipL l = acc (runQ 0 l) := (runQ_acc l).1.symm
end Mine
namespace Mine
open PySem

noncomputable abbrev sD (l : List Nat) : D := .str (mkS l)
theorem mkS_inj {a b : List Nat} (h : mkS a = mkS b) : a = b := by
  have := congrArg (fun s : Str => s.cps.toList) h
  simpa [mkS] using this
theorem mkS_eta (s : Str) : mkS s.cps.toList = s := by obtain ⟨a⟩ := s; simp [mkS]
theorem mkS_len (l : List Nat) : (mkS l).length = l.length := by simp [mkS, Str.length]
theorem mkS_append (a b : List Nat) : mkS a ++ mkS b = mkS (a ++ b) := by
  show Str.mk (a.toArray ++ b.toArray) = Str.mk (a ++ b).toArray
  simp
theorem mkS_beq (a b : List Nat) : (mkS a == mkS b) = (a == b) := by
  rw [Bool.eq_iff_iff]; simp only [beq_iff_eq]; exact ⟨mkS_inj, fun h => by rw [h]⟩
theorem eqv_sD (a b : List Nat) : PyData.eqv (sD a) (sD b) = (a == b) := by
  rw [← mkS_beq]; rfl

theorem startswith_l (a b : List Nat) : Txt.startswith (mkS a) (mkS b) = b.isPrefixOf a := by
  unfold Txt.startswith
  rw [StrLaws.subAt_eq, mkS_len, mkS_len]
  show (decide (0 + b.length ≤ a.length) && ((a.drop 0).take b.length == b)) = _
  rw [Bool.eq_iff_iff, Bool.and_eq_true, List.isPrefixOf_iff_prefix, List.prefix_iff_eq_take]
  simp only [List.drop_zero, decide_eq_true_eq, beq_iff_eq, Nat.zero_add]
  constructor
  · exact fun h => h.2.symm
  · intro h
    refine ⟨?_, h.symm⟩
    have := congrArg List.length h
    simp at this; omega
theorem endswith_l (a b : List Nat) : Txt.endswith (mkS a) (mkS b) = b.isSuffixOf a := by
  unfold Txt.endswith
  rw [StrLaws.subAt_eq, mkS_len, mkS_len]
  show (decide (0 + b.length ≤ a.length) && ((a.drop (a.length - b.length)).take b.length == b)) = _
  rw [Bool.eq_iff_iff, Bool.and_eq_true, List.isSuffixOf_iff_suffix, List.suffix_iff_eq_drop]
  simp only [decide_eq_true_eq, beq_iff_eq, Nat.zero_add]
  constructor
  · rintro ⟨h1, h2⟩
    rw [List.take_of_length_le (by simp; omega)] at h2
    exact h2.symm
  · intro h
    have hl := congrArg List.length h
    simp at hl
    refine ⟨by omega, ?_⟩
    rw [List.take_of_length_le (by simp; omega)]
    exact h.symm

noncomputable def ascii (l : List Nat) : Prop := ∀ c ∈ l, c < 128
theorem lower_l {l : List Nat} (h : ascii l) : Txt.lower (mkS l) = mkS (l.map PyProof.Rows.lo1) := by
  rw [PyProof.Rows.lower_ascii (x := mkS l) (by simpa [mkS] using (show ∀ c ∈ l, c < 128 from h))]
  simp [mkS]
theorem upper_l {l : List Nat} (h : ascii l) : Txt.upper (mkS l) = mkS (l.map PyProof.Rows.up1) := by
  rw [PyProof.Rows.upper_ascii (x := mkS l) (by simpa [mkS] using (show ∀ c ∈ l, c < 128 from h))]
  simp [mkS]

theorem contains_one (l : List Nat) (c : Nat) : Txt.contains (mkS l) (mkS [c]) = l.contains c := by
  unfold Txt.contains
  have := StrLaws.found_one (mkS l) c
  rw [show mkS [c] = ⟨#[c]⟩ from rfl, this]
  show decide (c ∈ l.toArray.toList) = _
  rw [Bool.eq_iff_iff]; simp

/-- the pieces between the dots -/
noncomputable def splitDot : List Nat → List (List Nat)
  | [] => [[]]
  | c :: r => if c = 46 then [] :: splitDot r else (c :: (splitDot r).headD []) :: (splitDot r).tail
theorem splitDot_ne : ∀ l, splitDot l ≠ []
  | [] => by simp [splitDot]
  | c :: r => by unfold splitDot; split <;> simp
/-- the pieces with dots between -/
noncomputable def joinDot : List (List Nat) → List Nat
  | [] => []
  | [p] => p
  | p :: q :: r => p ++ 46 :: joinDot (q :: r)
theorem join_split_dot : ∀ l, joinDot (splitDot l) = l
  | [] => rfl
  | c :: r => by
    have ih := join_split_dot r
    unfold splitDot
    obtain ⟨p, ps, e⟩ : ∃ p ps, splitDot r = p :: ps := by
      cases h : splitDot r with
      | nil => exact absurd h (splitDot_ne r)
      | cons p ps => exact ⟨p, ps, rfl⟩
    rw [e] at ih ⊢
    split
    · rename_i h; subst h
      show [] ++ 46 :: joinDot (p :: ps) = _
      rw [ih]; rfl
    · cases ps with
      | nil => show c :: p = _; rw [← ih]; rfl
      | cons q qs => show (c :: p) ++ 46 :: joinDot (q :: qs) = _; rw [← ih]; rfl
theorem splitDot_free : ∀ l, ∀ p ∈ splitDot l, 46 ∉ p
  | [], p, h => by simp [splitDot] at h; subst h; simp
  | c :: r, p, h => by
    have ih := splitDot_free r
    unfold splitDot at h
    split at h
    · rcases List.mem_cons.mp h with rfl | h
      · simp
      · exact ih p h
    · rename_i hc
      rcases List.mem_cons.mp h with rfl | h
      · intro hm
        rcases List.mem_cons.mp hm with e | hm
        · exact hc e.symm
        · cases hs : splitDot r with
          | nil => exact absurd hs (splitDot_ne r)
          | cons q qs => rw [hs] at hm; exact ih q (by rw [hs]; exact List.mem_cons_self ..) hm
      · exact ih p (List.mem_of_mem_tail h)
theorem splitDot_append (p : List Nat) (hp : 46 ∉ p) (r : List Nat) : splitDot (p ++ 46 :: r) = p :: splitDot r := by
  induction p with
  | nil => simp [splitDot]
  | cons c p ih =>
    have h1 : c ≠ 46 := fun e => hp (by simp [e])
    have h2 : 46 ∉ p := fun e => hp (List.mem_cons_of_mem _ e)
    rw [List.cons_append, splitDot, if_neg h1, ih h2]; rfl
theorem splitDot_none (p : List Nat) (hp : 46 ∉ p) : splitDot p = [p] := by
  induction p with
  | nil => rfl
  | cons c p ih =>
    have h1 : c ≠ 46 := fun e => hp (by simp [e])
    have h2 : 46 ∉ p := fun e => hp (List.mem_cons_of_mem _ e)
    rw [splitDot, if_neg h1, ih h2]; rfl
theorem splitDot_join : ∀ (ps : List (List Nat)), ps ≠ [] → (∀ p ∈ ps, 46 ∉ p) → splitDot (joinDot ps) = ps
  | [], h, _ => absurd rfl h
  | [p], _, h => splitDot_none p (h p (by simp))
  | p :: q :: r, _, h => by
    show splitDot (p ++ 46 :: joinDot (q :: r)) = _
    rw [splitDot_append p (h p (by simp)), splitDot_join (q :: r) (by simp) fun x hx => h x (List.mem_cons_of_mem _ hx)]
theorem join_l : ∀ (ps : List (List Nat)), Str.join (mkS [46]) (ps.map mkS) = mkS (joinDot ps)
  | [] => rfl
  | [p] => rfl
  | p :: q :: r => by
    show mkS p ++ mkS [46] ++ Str.join (mkS [46]) ((q :: r).map mkS) = _
    rw [join_l (q :: r), mkS_append, mkS_append, List.append_assoc]; rfl
theorem split_l (l : List Nat) : Txt.split (mkS l) (mkS [46]) = (splitDot l).map mkS := by
  have h1 := StrLaws.join_split (mkS l) (mkS [46])
  have h2 := StrLaws.split_free (mkS l) 46
  generalize hT : Txt.split (mkS l) (mkS [46]) = T at h1
  have e : T = (T.map fun s => s.cps.toList).map mkS := by
    rw [List.map_map]
    conv => lhs; rw [← List.map_id T]
    exact List.map_congr_left fun s _ => (mkS_eta s).symm
  have hne : T ≠ [] := by
    intro h
    rw [h] at h1
    have hl : [] = l := mkS_inj h1
    subst hl
    have : Txt.split (mkS []) (mkS [46]) = [mkS []] := rfl
    rw [this, h] at hT
    cases hT
  rw [e, join_l] at h1
  have h3 := mkS_inj h1
  have h4 : ∀ p ∈ T.map (fun s => s.cps.toList), 46 ∉ p := fun p hp => by
    obtain ⟨s, hs, rfl⟩ := List.mem_map.mp hp
    exact h2 s (by rw [show (⟨#[46]⟩ : Str) = mkS [46] from rfl, hT]; exact hs)
  have h5 := splitDot_join _ (by simpa using hne) h4
  rw [h3] at h5
  rw [e, ← h5]
end Mine
namespace Mine
open PySem PyProof.Rows

/-- a run of statements that gives d back -/
noncomputable def Ret (Φ : List (List D → Option D)) (b : S) (σ : List Slot) (d : D) : Prop := ∃ σ', run Φ ipv4 2000 b σ = some (σ', .ret d)
section
variable {Φ : List (List D → Option D)} {σ σ₁ : List Slot} {a b : S} {i : Nat} {x t : X} {d v : D} {o c : Bool}
theorem Ret.assign (v : D) (h : ev Φ x (fzs σ) = some v) (k : Ret Φ b (σ.set i (mkSlot o v)) d) : Ret Φ (.seq (.assign i [] o x) b) σ d := by
  obtain ⟨σ', e⟩ := k; exact ⟨σ', (run_seq (run_assign h)).trans e⟩
theorem Ret.step (h : run Φ ipv4 2000 a σ = some (σ₁, .nxt)) (k : Ret Φ b σ₁ d) : Ret Φ (.seq a b) σ d := by
  obtain ⟨σ', e⟩ := k; exact ⟨σ', (run_seq h).trans e⟩
theorem Ret.stop (h : Ret Φ a σ d) : Ret Φ (.seq a b) σ d := by
  obtain ⟨σ', e⟩ := h; exact ⟨σ', run_stop e fun h => nomatch h⟩
theorem Ret.ret (h : ev Φ x (alls σ) = some d) : Ret Φ (.seq (.ret x) b) σ d := Ret.stop ⟨σ, run_ret h⟩
theorem Ret.if {a' : S} (c : Bool) (h : (ev Φ t (alls σ)).bind truth = some c) (h1 : c = true → Ret Φ a σ d) (h2 : c = false → Ret Φ a' σ d) : Ret Φ (.ite t a a') σ d := by
  have e : run Φ ipv4 2000 (.ite t a a') σ = if c then run Φ ipv4 2000 a σ else run Φ ipv4 2000 a' σ := by simp only [run, h, Option.bind_some]
  cases c with
  | true => obtain ⟨σ', q⟩ := h1 rfl; exact ⟨σ', e.trans q⟩
  | false => obtain ⟨σ', q⟩ := h2 rfl; exact ⟨σ', e.trans q⟩
/-- if the test holds, the branch gives back; else the rest does -/
theorem Ret.ite (c : Bool) (h : (ev Φ t (alls σ)).bind truth = some c) (h1 : c = true → Ret Φ a σ d) (h2 : c = false → Ret Φ b σ d) : Ret Φ (.seq (.ite t a .skip) b) σ d := by
  have e : run Φ ipv4 2000 (.ite t a .skip) σ = if c then run Φ ipv4 2000 a σ else run Φ ipv4 2000 .skip σ := by simp only [run, h, Option.bind_some]
  cases c with
  | true => obtain ⟨σ', q⟩ := h1 rfl; exact Ret.stop ⟨σ', e.trans q⟩
  | false => exact Ret.step e (h2 rfl)
theorem Ret.fn {n ar : Nat} {args : List D} (hl : args.length = ar) (h : Ret Φ b (args.map .frz ++ List.replicate (n - args.length) .unset) d) : fnOut Φ ipv4 2000 b n ar args = some d := by
  obtain ⟨σ', e⟩ := h; exact fn_ret hl e

theorem ev_comp {e it cd : X} {τ : List (Option D)} {ds out : List D} (v : D) (h1 : ev Φ it τ = some v) (h2 : items v = some ds) (h3 : compM (fun d => ev Φ cd (τ ++ [some d])) (fun d => ev Φ e (τ ++ [some d])) ds = some out) : ev Φ (.comp e it cd) τ = some (.list out) := by
  show ((ev Φ it τ).bind items).bind (fun ds => (compM (fun d => ev Φ cd (τ ++ [some d])) (fun d => ev Φ e (τ ++ [some d])) ds).map PyData.list) = _
  rw [h1]
  show (items v).bind _ = _
  rw [h2]
  show (compM _ _ ds).map _ = _
  rw [h3]; rfl
/-- a for loop, by what each turn does -/
theorem forL_step' {f : D → List Slot → Option (List Slot × Fl)} {d : D} {r : List D} {σ σ' : List Slot} {fl : Fl} (h : f d σ = some (σ', fl)) (hf : fl = .nxt ∨ fl = .cnt) : forL f (d :: r) σ = forL f r σ' := by
  rw [forL, h]; rcases hf with rfl | rfl <;> rfl
end
/-- equal lists of texts -/
theorem eqvAll_sD : ∀ (a b : List (List Nat)), PyData.eqvAll (a.map sD) (b.map sD) = (a == b)
  | [], [] => rfl
  | [], _ :: _ => rfl
  | _ :: _, [] => rfl
  | x :: a, y :: b => by
    show (PyData.eqv (sD x) (sD y) && PyData.eqvAll (a.map sD) (b.map sD)) = _
    rw [eqv_sD, eqvAll_sD a b]; rfl
theorem ok_sD (n : Nat) (a : List (List Nat)) : okN (n + 1) (.list (a.map sD)) = true := by
  show (a.map sD).all (okN n) = true
  rw [List.all_map]
  exact List.all_eq_true.mpr fun x _ => by cases n <;> rfl
theorem cmp_eq_sDs (a b : List (List Nat)) : cmpop .eq (.list (a.map sD)) (.list (b.map sD)) = some (a == b) := by
  show (if (kin _ _ && okN 6 (.list (a.map sD)) && okN 6 (.list (b.map sD))) = true then some (PyData.eqvAll (a.map sD) (b.map sD)) else none) = _
  rw [ok_sD, ok_sD]
  show some (PyData.eqvAll (a.map sD) (b.map sD)) = _
  rw [eqvAll_sD]
end Mine
namespace Mine
open PySem PyProof.Rows

noncomputable def S0 : S := (.seq (.ifSearch (.var 0) (.seq (.ret (.cbool false)) .skip) .skip) (.seq (.ret (.cbool true)) .skip))
noncomputable def S1 : S := (.seq (.assign 0 [] false (.meth0 .lower (.var 0))) (.seq (.assign 1 [] false (.meth0 .lower (.var 1))) (.seq (.ite (.not (.and (.call 0 (.acons (.var 0) .anil)) (.call 0 (.acons (.var 1) .anil)))) (.seq (.ite (.cmp .eq (.var 0) (.var 1)) (.seq (.ret (.cbool true)) .skip) .skip) (.seq (.ret (.cbool false)) .skip)) .skip) (.seq (.assign 2 [] false (.meth1 .startswith (.var 1) (.cstr "."))) (.seq (.ite (.and (.var 2) (.meth1 .endswith (.var 0) (.var 1))) (.seq (.ret (.cbool true)) .skip) .skip) (.seq (.ite (.and (.not (.var 2)) (.cmp .eq (.var 0) (.var 1))) (.seq (.ret (.cbool true)) .skip) .skip) (.seq (.ret (.cbool false)) .skip)))))))
noncomputable def f0 : List D → Option D := fnOut [] ipv4 2000 S0 1 1
noncomputable def f1 : List D → Option D := fnOut [f0] ipv4 2000 S1 3 2

theorem dot_eq : (("." : Str)) = mkS [46] := by decide +kernel

theorem lib_ok (l : List Nat) : f0 [sD l] = some (.bool (!ipL l)) := by
  have h : run [] ipv4 2000 S0 [.frz (sD l)] = some ([.frz (sD l)], .ret (.bool (!ipL l))) := by
    show ((if ipv4 (mkS l) then _ else _ : Option (List Slot × Fl))).bind _ = _
    rw [ipv4_l]
    cases ipL l <;> rfl
  exact fn_ret rfl h

/-- small letters -/
noncomputable def lo (l : List Nat) : List Nat := l.map lo1
/-- the rule B holds for A (both in small letters) -/
noncomputable def udm (A B : List Nat) : Bool := A == B || (B.head? == some 46 && B.isSuffixOf A && !ipL A)

theorem ipL_suffix {A B : List Nat} (h : B <:+ A) (hb : ipL B = true) : ipL A = true := by
  obtain ⟨p, rfl⟩ := h
  induction p with
  | nil => exact hb
  | cons c p ih => rw [List.cons_append, ipL, ih, Bool.or_true]

theorem head_prefix (B : List Nat) : [46].isPrefixOf B = (B.head? == some 46) := by
  cases B with
  | nil => rfl
  | cons c r =>
    show ((46 == c) && true) = (some c == some 46)
    rw [Bool.and_true, Bool.eq_iff_iff]; simp only [beq_iff_eq, Option.some.injEq]; exact eq_comm

theorem udm_eq (A B : List Nat) : udm A B = (if (!(!ipL A && !ipL B)) = true then A == B else if ([46].isPrefixOf B && B.isSuffixOf A) = true then true else (!([46].isPrefixOf B) && A == B)) := by
  unfold udm
  rw [head_prefix]
  cases hA : ipL A
  · cases hB : ipL B
    · cases hd : (B.head? == some 46)
      · cases (A == B) <;> rfl
      · cases hs : B.isSuffixOf A
        · have : (A == B) = false := by
            cases h : A == B
            · rfl
            · have := beq_iff_eq.mp h; subst this
              rw [List.isSuffixOf_iff_suffix.mpr (List.suffix_refl _)] at hs; cases hs
          rw [this]; rfl
        · cases (A == B) <;> rfl
    · have hs : B.isSuffixOf A = false := by
        cases h : B.isSuffixOf A
        · rfl
        · have := ipL_suffix (List.isSuffixOf_iff_suffix.mp h) hB
          rw [hA] at this; cases this
      rw [hs]; cases (A == B) <;> cases (B.head? == some 46) <;> rfl
  · cases (A == B) <;> cases (B.head? == some 46) <;> cases (B.isSuffixOf A) <;> rfl

theorem lo_len (a : List Nat) : (lo a).length = a.length := by simp [lo]
theorem m_lower {a : List Nat} (h : ascii a) (hl : a.length ≤ 5592405) : method0 .lower (sD a) = some (sD (lo a)) := by
  show (if (mkS a).length ≤ 5592405 then some (PyData.str (Txt.lower (mkS a))) else none) = _
  rw [if_pos (by rw [mkS_len]; exact hl), lower_l h]; rfl

theorem udm_ok {a b : List Nat} (ha : ascii a) (hb : ascii b) (la : a.length ≤ 5592405) (lb : b.length ≤ 5592405) : f1 [sD a, sD b] = some (.bool (udm (lo a) (lo b))) := by
  refine Ret.fn (b := S1) rfl ?_
  refine .assign _ (by exact m_lower ha la) (.assign _ (by exact m_lower hb lb) ?_)
  rw [udm_eq]
  refine .ite (!(!ipL (lo a) && !ipL (lo b))) ?_ (fun h1 => ?_) fun h1 => ?_
  · show (((f0 [sD (lo a)]).bind fun x => (truth x).bind fun t => if t then f0 [sD (lo b)] else some x).bind (fun x => (truth x).map fun b => PyData.bool (!b))).bind truth = _
    rw [lib_ok, lib_ok]
    cases ipL (lo a) <;> rfl
  · rw [h1, if_pos rfl]
    refine .ite (lo a == lo b) (by rw [← eqv_sD]; rfl) (fun h2 => ?_) fun h2 => ?_
    · rw [h2]; exact .ret rfl
    · rw [h2]; exact .ret rfl
  · rw [h1, if_neg Bool.false_ne_true]
    refine .assign (.bool ([46].isPrefixOf (lo b))) (by rw [← startswith_l]; rfl) ?_
    refine .ite ([46].isPrefixOf (lo b) && (lo b).isSuffixOf (lo a)) (by rw [← endswith_l]; cases [46].isPrefixOf (lo b) <;> rfl) (fun h2 => ?_) fun h2 => ?_
    · rw [h2]; exact .ret rfl
    · rw [h2, if_neg Bool.false_ne_true]
      refine .ite (!([46].isPrefixOf (lo b)) && (lo a == lo b)) (by rw [← eqv_sD]; cases [46].isPrefixOf (lo b) <;> rfl) (fun h3 => ?_) fun h3 => ?_
      · rw [h3]; exact .ret rfl
      · rw [h3]; exact .ret rfl
end Mine
namespace Mine
open PySem PyProof.Rows

theorem at_last {α : Type} (l : List α) (d : α) : at? (l ++ [d]) (-1) = some d := by
  unfold at?
  rw [if_neg (by decide), if_pos (by simp; omega)]
  have : (-1 + ((l ++ [d]).length : Int)).toNat = l.length := by simp; omega
  rw [this]; simp
theorem put_last (l : List D) (d e : D) : putAt (l ++ [d]) (-1) e = l ++ [e] := by
  unfold putAt
  rw [if_neg (by decide)]
  have : (-1 + ((l ++ [d]).length : Int)).toNat = l.length := by simp; omega
  rw [this]; simp

/-- the signs of the texts -/
noncomputable def alpha : List Nat := [46, 97, 65, 98, 55, 10]
structure okT (N : Nat) (t : List Nat) : Prop where
  sg : ∀ c ∈ t, c ∈ alpha
  le : t.length ≤ N
theorem okT.ascii {N : Nat} {t : List Nat} (h : okT N t) : ascii t := fun c hc => by
  have := h.sg c hc
  simp [alpha] at this
  omega

noncomputable def tB : S := (.seq (.aug 2 .add (.cint (1))) (.seq (.ite (.cmp .lt (.bin .mod (.var 3) (.cint (8))) (.cint (2))) (.seq (.append 1 (.bin .mul (.cstr ".") (.bin .mod (.var 3) (.cint (8))))) .skip) (.seq (.augIdx 1 (.neg (.cint (1))) .add (.idx (.cstr ".aAb7\n") (.bin .sub (.bin .mod (.var 3) (.cint (8))) (.cint (2))))) .skip)) (.seq (.assign 3 [] false (.bin .div (.var 3) (.cint (8)))) (.seq (.ite (.or (.cmp .eq (.var 3) (.cint (0))) (.cmp .eq (.var 3) (.neg (.cint (1))))) (.seq .brk .skip) .skip) .skip))))
noncomputable def tW (N : Int) : S := .whil (.cmp .lt (.var 2) (.cint N)) tB
noncomputable def S2 (N : Int) : S := (.seq (.assign 1 [] true (.list (.acons (.cstr "") .anil))) (.seq (.assign 2 [] false (.cint (0))) (.seq (.for1 3 [] (.var 0) (.seq (tW N) .skip)) (.seq (.ret (.ite (.and (.cmp .eq (.idx (.var 1) (.cint (0))) (.cstr "")) (.cmp .gt (.len (.var 1)) (.cint (1)))) (.slice (.var 1) (.cint (1)) .cnone) (.var 1))) .skip))))

/-- the texts so far -/
structure IsTx (k : Nat) (ts : List (List Nat)) : Prop where
  ne : ts ≠ []
  ok : ∀ t ∈ ts, okT (k + 1) t
  le : ts.length ≤ k + 1
noncomputable def tS (sc : D) (ts : List (List Nat)) (k : Nat) (s3 : Slot) : List Slot := [.frz sc, .own (ts.map sD), .frz (.int k), s3]

theorem IsTx.last {k : Nat} {ts : List (List Nat)} (h : IsTx k ts) : ∃ pre t, ts = pre ++ [t] := ⟨ts.dropLast, ts.getLast h.ne, (List.dropLast_concat_getLast h.ne).symm⟩
theorem IsTx.push {k : Nat} {ts : List (List Nat)} {t : List Nat} (h : IsTx k ts) (ht : okT 1 t) : IsTx (k + 1) (ts ++ [t]) :=
  ⟨by simp, fun u hu => by
    rcases List.mem_append.mp hu with hu | hu
    · exact ⟨(h.ok u hu).sg, Nat.le_succ_of_le (h.ok u hu).le⟩
    · rw [List.mem_singleton.mp hu]; exact ⟨ht.sg, by have := ht.le; omega⟩, by have := h.le; simp; omega⟩
theorem IsTx.grow {k : Nat} {pre : List (List Nat)} {t : List Nat} {c : Nat} (h : IsTx k (pre ++ [t])) (hc : c ∈ alpha) : IsTx (k + 1) (pre ++ [t ++ [c]]) :=
  ⟨by simp, fun u hu => by
    rcases List.mem_append.mp hu with hu | hu
    · have := h.ok u (List.mem_append_left _ hu)
      exact ⟨this.sg, Nat.le_succ_of_le this.le⟩
    · have := h.ok t (by simp)
      rw [List.mem_singleton.mp hu]
      refine ⟨fun d hd => ?_, by have := this.le; simp; omega⟩
      rcases List.mem_append.mp hd with hd | hd
      · exact this.sg d hd
      · rw [List.mem_singleton.mp hd]; exact hc, by have := h.le; simp at this ⊢; omega⟩

theorem tx_body (Φ : List (List D → Option D)) (sc : D) (ts : List (List Nat)) (k : Nat) (hk : k < 60) (h : IsTx k ts) (x : Int) : ∃ ts' fl, IsTx (k + 1) ts' ∧ (fl = .brk ∨ fl = .nxt) ∧ run Φ ipv4 2000 tB (tS sc ts k (.frz (.int x))) = some (tS sc ts' (k + 1) (.frz (.int (x.fdiv 8))), fl) := by
  have m0 : 0 ≤ x.fmod 8 := Int.fmod_nonneg_of_pos x (by decide)
  have m1 : x.fmod 8 < 8 := Int.fmod_lt_of_pos x (by decide)
  have e0 : run Φ ipv4 2000 (.aug 2 .add (.cint (1))) (tS sc ts k (.frz (.int x))) = some (tS sc ts (k + 1) (.frz (.int x)), .nxt) := rfl
  have hcmp : (ev Φ (.cmp .lt (.bin .mod (.var 3) (.cint (8))) (.cint (2))) (alls (tS sc ts (k + 1) (.frz (.int x))))) = some (.bool (decide (x.fmod 8 < 2))) := rfl
  have e1 : ∃ ts', IsTx (k + 1) ts' ∧ run Φ ipv4 2000 (.ite (.cmp .lt (.bin .mod (.var 3) (.cint (8))) (.cint (2))) (.seq (.append 1 (.bin .mul (.cstr ".") (.bin .mod (.var 3) (.cint (8))))) .skip) (.seq (.augIdx 1 (.neg (.cint (1))) .add (.idx (.cstr ".aAb7\n") (.bin .sub (.bin .mod (.var 3) (.cint (8))) (.cint (2))))) .skip)) (tS sc ts (k + 1) (.frz (.int x))) = some (tS sc ts' (k + 1) (.frz (.int x)), .nxt) := by
    rw [run_ite hcmp rfl]
    by_cases hm : x.fmod 8 < 2
    · rw [if_pos (by simpa using hm), run_one]
      have hlen : (ts.map sD).length < 16777216 := by have := h.le; rw [List.length_map]; omega
      have hm' : x.fmod 8 = 0 ∨ x.fmod 8 = 1 := by omega
      rcases hm' with q | q
      · refine ⟨ts ++ [[]], h.push ⟨by simp, by simp⟩, ?_⟩
        refine (run_append (l := ts.map sD) (d := sD []) rfl hlen ?_ rfl).trans (by simp [tS])
        show binop .mul (.str ".") (.int (x.fmod 8)) = _
        rw [q]; rfl
      · refine ⟨ts ++ [[46]], h.push ⟨by simp [alpha], by simp⟩, ?_⟩
        refine (run_append (l := ts.map sD) (d := sD [46]) rfl hlen ?_ rfl).trans (by simp [tS])
        show binop .mul (.str ".") (.int (x.fmod 8)) = _
        rw [q]; rfl
    · rw [if_neg (by simpa using hm), run_one]
      obtain ⟨pre, t, rfl⟩ := h.last
      obtain ⟨c, hc, he⟩ : ∃ c ∈ alpha, index (.str ".aAb7\n") (.int (x.fmod 8 - 2)) = some (sD [c]) := by
        have hm' : x.fmod 8 = 2 ∨ x.fmod 8 = 3 ∨ x.fmod 8 = 4 ∨ x.fmod 8 = 5 ∨ x.fmod 8 = 6 ∨ x.fmod 8 = 7 := by omega
        rcases hm' with q | q | q | q | q | q <;> rw [q]
        · exact ⟨46, by decide, rfl⟩
        · exact ⟨97, by decide, rfl⟩
        · exact ⟨65, by decide, rfl⟩
        · exact ⟨98, by decide, rfl⟩
        · exact ⟨55, by decide, rfl⟩
        · exact ⟨10, by decide, rfl⟩
      refine ⟨_, h.grow hc, ?_⟩
      show ((at? ((pre ++ [t]).map sD) (-1)).bind fun old => (index (.str ".aAb7\n") (.int (x.fmod 8 - 2))).bind fun v => (augv .add old v).map fun d => ((tS sc (pre ++ [t]) (k + 1) (.frz (.int x))).set 1 (.own (putAt ((pre ++ [t]).map sD) (-1) d)), Fl.nxt)) = _
      rw [he, List.map_append, List.map_singleton, at_last]
      show (if (mkS t).length + (mkS [c]).length ≤ 16777216 then some (PyData.str (mkS t ++ mkS [c])) else none).map _ = _
      have ht := (h.ok t (by simp)).le
      rw [if_pos (by rw [mkS_len, mkS_len]; show t.length + 1 ≤ _; omega), mkS_append]
      show some ((tS sc (pre ++ [t]) (k + 1) (.frz (.int x))).set 1 (.own (putAt (pre.map sD ++ [sD t]) (-1) (sD (t ++ [c])))), Fl.nxt) = _
      rw [put_last]
      simp [tS]
  obtain ⟨ts', h', e1⟩ := e1
  have e2 : run Φ ipv4 2000 (.assign 3 [] false (.bin .div (.var 3) (.cint (8)))) (tS sc ts' (k + 1) (.frz (.int x))) = some (tS sc ts' (k + 1) (.frz (.int (x.fdiv 8))), .nxt) := run_assign rfl
  refine ⟨ts', if (x.fdiv 8 == 0 || x.fdiv 8 == -1) then .brk else .nxt, h', by split <;> simp, ?_⟩
  unfold tB
  rw [run_seq e0, run_seq e1, run_seq e2, run_one]
  have e3 : ev Φ (.or (.cmp .eq (.var 3) (.cint (0))) (.cmp .eq (.var 3) (.neg (.cint (1))))) (alls (tS sc ts' (k + 1) (.frz (.int (x.fdiv 8))))) = some (.bool (x.fdiv 8 == 0 || x.fdiv 8 == -1)) := by
    show (if (x.fdiv 8 == 0) then some (PyData.bool (x.fdiv 8 == 0)) else some (PyData.bool (x.fdiv 8 == -1))) = _
    cases (x.fdiv 8 == 0) <;> rfl
  rw [run_ite e3 rfl]
  cases (x.fdiv 8 == 0 || x.fdiv 8 == -1) <;> rfl

theorem tx_while (Φ : List (List D → Option D)) (N : Nat) (hN : N ≤ 50) (sc : D) (ts : List (List Nat)) (k : Nat) (hk : k ≤ N) (h : IsTx k ts) (x : Int) : ∃ ts' k' s3, k' ≤ N ∧ IsTx k' ts' ∧ run Φ ipv4 2000 (tW N) (tS sc ts k (.frz (.int x))) = some (tS sc ts' k' s3, .nxt) := by
  have key := whileL_inv (t := fun σ => (ev Φ (.cmp .lt (.var 2) (.cint N)) (alls σ)).bind truth) (f := run Φ ipv4 2000 tB)
    (fun n σ => ∃ ts k x, IsTx k ts ∧ n + k = N ∧ σ = tS sc ts k (.frz (.int x))) (fun σ => ∃ ts k s3, k ≤ N ∧ IsTx k ts ∧ σ = tS sc ts k s3) (fun n σ hσ => ?_) (N - k) 2000 _ (by omega) ⟨ts, k, x, h, by omega, rfl⟩
  · obtain ⟨σ', e, ts', k', s3, h1, h2, rfl⟩ := key
    exact ⟨ts', k', s3, h1, h2, e⟩
  · obtain ⟨ts, k, x, h, hn, rfl⟩ := hσ
    refine ⟨decide ((k : Int) < N), rfl, fun hb => ⟨ts, k, _, by omega, h, rfl⟩, fun hb => ?_⟩
    have hlt : k < N := by simp at hb; omega
    obtain ⟨ts', fl, h', hf, e⟩ := tx_body Φ sc ts k (by omega) h x
    refine ⟨_, fl, e, ?_⟩
    rcases hf with rfl | rfl
    · exact .inl ⟨rfl, ts', k + 1, _, hlt, h', rfl⟩
    · exact .inr ⟨.inl rfl, n - 1, by omega, ts', k + 1, _, h', by omega, rfl⟩

theorem tx_for (Φ : List (List D → Option D)) (N : Nat) (hN : N ≤ 50) (sc : D) : ∀ (is : List Int) (ts : List (List Nat)) (k : Nat) (s3 : Slot), k ≤ N → IsTx k ts → ∃ ts' k' s3', k' ≤ N ∧ IsTx k' ts' ∧ forL (fun d σ => run Φ ipv4 2000 (.seq (tW N) .skip) (σ.set 3 (.frz d))) (is.map .int) (tS sc ts k s3) = some (tS sc ts' k' s3', .nxt)
  | [], ts, k, s3, hk, h => ⟨ts, k, s3, hk, h, rfl⟩
  | i :: is, ts, k, s3, hk, h => by
    obtain ⟨t1, k1, s1, h1, h2, e⟩ := tx_while Φ N hN sc ts k hk h i
    obtain ⟨t2, k2, s2, h3, h4, e2⟩ := tx_for Φ N hN sc is t1 k1 s1 h1 h2
    refine ⟨t2, k2, s2, h3, h4, ?_⟩
    rw [List.map_cons, forL_step' (σ' := tS sc t1 k1 s1) (fl := .nxt) (by rw [run_one]; exact e) (.inl rfl), e2]

/-- what the scripts spell -/
theorem tx_ok (Φ : List (List D → Option D)) (N : Nat) (hN : N ≤ 50) (is : List Int) : ∃ ts, IsTx N ts ∧ fnOut Φ ipv4 2000 (S2 N) 4 1 [.list (is.map .int)] = some (.list (ts.map sD)) := by
  obtain ⟨ts, k, s3, h1, h2, e⟩ := tx_for Φ N hN (.list (is.map .int)) is [[]] 0 .unset (Nat.zero_le _) ⟨by simp, fun t ht => by rw [List.mem_singleton.mp ht]; exact ⟨by simp, by simp⟩, by simp⟩
  have up : IsTx N ts := ⟨h2.ne, fun t ht => ⟨(h2.ok t ht).sg, by have := (h2.ok t ht).le; omega⟩, by have := h2.le; omega⟩
  obtain ⟨t, r, rfl⟩ : ∃ t r, ts = t :: r := by
    cases ts with
    | nil => exact absurd rfl h2.ne
    | cons t r => exact ⟨t, r, rfl⟩
  have hfin : ∀ d, ev Φ (.ite (.and (.cmp .eq (.idx (.var 1) (.cint (0))) (.cstr "")) (.cmp .gt (.len (.var 1)) (.cint (1)))) (.slice (.var 1) (.cint (1)) .cnone) (.var 1)) (alls (tS (.list (is.map .int)) (t :: r) k s3)) = some d → fnOut Φ ipv4 2000 (S2 N) 4 1 [.list (is.map .int)] = some d := by
    intro d hd
    refine Ret.fn (b := S2 N) rfl (.assign _ rfl (.assign _ rfl (.step ?_ (.ret hd))))
    exact (run_for (d := .list (is.map .int)) rfl rfl).trans e
  have hev : ∀ d, (((if (t == [] : Bool) then some (PyData.bool (decide ((((t :: r).map sD).length : Int) > 1))) else some (PyData.bool (t == []))).bind truth).bind fun c => if c then slice (.list ((t :: r).map sD)) (.int 1) .none else some (.list ((t :: r).map sD))) = some d → ev Φ (.ite (.and (.cmp .eq (.idx (.var 1) (.cint (0))) (.cstr "")) (.cmp .gt (.len (.var 1)) (.cint (1)))) (.slice (.var 1) (.cint (1)) .cnone) (.var 1)) (alls (tS (.list (is.map .int)) (t :: r) k s3)) = some d := by
    intro d hd
    rw [← eqv_sD] at hd
    rw [← hd]
    show (((some (PyData.bool (PyData.eqv (sD t) (.str "")))).bind fun x => (truth x).bind fun q => if q then some (PyData.bool (decide ((((t :: r).map sD).length : Int) > 1))) else some x).bind fun x => (truth x).bind fun q => if q then slice (.list ((t :: r).map sD)) (.int 1) .none else some (.list ((t :: r).map sD))) = _
    rw [show (.str "" : D) = sD [] from rfl]
    cases PyData.eqv (sD t) (sD []) <;> rfl
  by_cases hc : t = [] ∧ r ≠ []
  · obtain ⟨rfl, hr⟩ := hc
    refine ⟨r, ⟨hr, fun t ht => up.ok t (List.mem_cons_of_mem _ ht), by have := up.le; simp at this; omega⟩, hfin _ (hev _ ?_)⟩
    have hlen : decide (((([] :: r).map sD).length : Int) > 1) = true := by
      cases r with
      | nil => exact absurd rfl hr
      | cons _ _ => simp; omega
    rw [hlen]
    have hcl : clip (([] :: r).map sD).length 1 = 1 := by unfold clip; rw [if_neg (by decide)]; simp; omega
    show some (PyData.list ((((([] : List Nat) :: r).map sD).drop (clip (([] :: r).map sD).length 1)).take ((([] :: r).map sD).length - clip (([] :: r).map sD).length 1))) = _
    rw [hcl]
    show some (PyData.list ((r.map sD).take ((r.map sD).length + 1 - 1))) = _
    rw [Nat.add_sub_cancel, List.take_length]
  · refine ⟨t :: r, up, hfin _ (hev _ ?_)⟩
    cases ht : (t == [] : Bool) with
    | false => rfl
    | true =>
      have : r = [] := by
        by_cases q : r = []
        · exact q
        · exact absurd ⟨by simpa using ht, q⟩ hc
      subst this; rfl
end Mine
namespace Mine
open PySem PyProof.Rows

theorem compM_map {α : Type} {cond elt : D → Option D} (inj : α → D) (c : α → Bool) (g : α → D) : ∀ (xs : List α), (∀ x ∈ xs, (cond (inj x)).bind truth = some (c x) ∧ (c x = true → elt (inj x) = some (g x))) → compM cond elt (xs.map inj) = some ((xs.filter c).map g)
  | [], _ => rfl
  | e :: r, h => by
    obtain ⟨h1, h2⟩ := h e (List.mem_cons_self ..)
    have ih := compM_map inj c g r fun q hq => h q (List.mem_cons_of_mem _ hq)
    rw [List.map_cons]
    unfold compM
    rw [h1]
    cases hc : c e with
    | true =>
      show ((elt (inj e)).bind fun v => (compM cond elt (r.map inj)).bind fun vs => some (v :: vs)) = _
      rw [h2 hc, ih, List.filter_cons_of_pos hc]; rfl
    | false =>
      show compM cond elt (r.map inj) = _
      rw [ih, List.filter_cons_of_neg (by simp [hc])]
theorem compM_mapT {α : Type} {cond elt : D → Option D} (inj : α → D) (g : α → D) (xs : List α) (h1 : ∀ e, cond e = some (.bool true)) (h : ∀ x ∈ xs, elt (inj x) = some (g x)) : compM cond elt (xs.map inj) = some (xs.map g) := by
  rw [compM_map inj (fun _ => true) g xs fun x hx => ⟨by rw [h1]; rfl, fun _ => h x hx⟩, List.filter_eq_self.mpr fun _ _ => rfl]

/-- the ends that begin with a dot -/
noncomputable def dots : List Nat → List (List Nat)
  | [] => []
  | c :: r => if c = 46 then (c :: r) :: dots r else dots r
/-! the last piece -/
theorem ipL_no {q : List Nat} (h : 46 ∉ q) : ipL q = false := by
  induction q with
  | nil => rfl
  | cons c r ih =>
    have h1 : (c == 46) = false := by
      cases e : c == 46
      · rfl
      · exact absurd (by simp [beq_iff_eq.mp e]) h
    rw [ipL, ih fun hm => h (List.mem_cons_of_mem _ hm), h1]; rfl
theorem ipL_last {p q : List Nat} (h : 46 ∉ q) : ipL (p ++ 46 :: q) = figs false q := by
  rw [ipL_q, runQ_append, runQ_cons]
  have : stp (runQ 0 p) 46 = 1 := by unfold stp; rw [if_pos rfl]
  rw [this, (runQ_acc q).2.1, ipL_no h, Bool.or_false]
theorem figs_nl : ∀ (b : Bool) (q : List Nat), figs b (q ++ [10]) = ((b || !q.isEmpty) && q.all dig)
  | b, [] => by cases b <;> rfl
  | b, c :: r => by
    rw [List.cons_append, figs]
    cases hd : dig c
    · rw [if_neg Bool.false_ne_true, List.all_cons, hd]
      have : (r ++ [10]).isEmpty = false := by cases r <;> rfl
      rw [this]; simp
    · rw [if_pos rfl, figs_nl true r, List.all_cons, hd]; simp
theorem figs_plain : ∀ (b : Bool) (q : List Nat), q.getLast? ≠ some 10 → figs b q = ((b || !q.isEmpty) && q.all dig)
  | b, [], _ => by cases b <;> rfl
  | b, [c], h => by
    have hc : (c == 10) = false := by
      cases e : c == 10
      · rfl
      · exact absurd (by simp [beq_iff_eq.mp e]) h
    simp only [figs, hc]
    cases hd : dig c <;> simp [hd]
  | b, c :: d :: r, h => by
    rw [figs]
    cases hd : dig c
    · rw [if_neg Bool.false_ne_true, List.all_cons, hd]; simp
    · rw [if_pos rfl, figs_plain true (d :: r) (by rw [List.getLast?_cons_cons] at h; exact h)]
      show _ = ((b || true) && (dig c && (d :: r).all dig))
      rw [hd]; simp

/-- the text without a line feed at its end -/
noncomputable def core (A : List Nat) : List Nat := if A.getLast? = some 10 then A.dropLast else A
noncomputable def lastP (A : List Nat) : List Nat := (splitDot A).getLastD []
theorem lastP_no {q : List Nat} (h : 46 ∉ q) : lastP q = q := by unfold lastP; rw [splitDot_none q h]; rfl
theorem splitDot_last (p : List Nat) {q : List Nat} (h : 46 ∉ q) : lastP (p ++ 46 :: q) = q := by
  unfold lastP
  induction p with
  | nil =>
    rw [List.nil_append, splitDot, if_pos rfl, splitDot_none q h]; rfl
  | cons c p ih =>
    rw [List.cons_append, splitDot]
    obtain ⟨x, xs, e⟩ : ∃ x xs, splitDot (p ++ 46 :: q) = x :: xs := by
      cases hs : splitDot (p ++ 46 :: q) with
      | nil => exact absurd hs (splitDot_ne _)
      | cons x xs => exact ⟨x, xs, rfl⟩
    rw [e] at ih ⊢
    split
    · exact ih
    · cases xs with
      | nil =>
        exfalso
        have := join_split_dot (p ++ 46 :: q)
        rw [e] at this
        have h2 := splitDot_free (p ++ 46 :: q) x (by rw [e]; simp)
        have h3 : joinDot [x] = x := rfl
        rw [h3] at this
        rw [this] at h2
        exact h2 (by simp)
      | cons y ys => exact ih
theorem dot_or (A : List Nat) : 46 ∉ A ∨ ∃ p q, 46 ∉ q ∧ A = p ++ 46 :: q := by
  induction A with
  | nil => exact .inl (by simp)
  | cons c A ih =>
    rcases ih with h | ⟨p, q, h, rfl⟩
    · by_cases hc : c = 46
      · exact .inr ⟨[], A, h, by rw [hc]; rfl⟩
      · exact .inl fun hm => by
          rcases List.mem_cons.mp hm with e | hm
          · exact hc e.symm
          · exact h hm
    · exact .inr ⟨c :: p, q, h, rfl⟩
theorem ip_by_last (A : List Nat) : ipL A = (!(core A == lastP (core A)) && (!(lastP (core A) == []) && (lastP (core A)).all dig)) := by
  have hnil : ∀ l : List Nat, (l == []) = l.isEmpty := fun l => by cases l <;> rfl
  rcases dot_or A with h | ⟨p, q, h, rfl⟩
  · have hc : 46 ∉ core A := by
      unfold core; split
      · exact fun hm => h (List.dropLast_subset _ hm)
      · exact h
    rw [ipL_no h, lastP_no hc]
    simp
  · have key : ∀ r, core (p ++ 46 :: q) = p ++ 46 :: r → 46 ∉ r → figs false q = ((false || !r.isEmpty) && r.all dig) → ipL (p ++ 46 :: q) = (!(core (p ++ 46 :: q) == lastP (core (p ++ 46 :: q))) && (!(lastP (core (p ++ 46 :: q)) == []) && (lastP (core (p ++ 46 :: q))).all dig)) := by
      intro r e hr hf
      rw [ipL_last h, hf, e, splitDot_last p hr, hnil]
      have : (p ++ 46 :: r == r) = false := by
        cases hx : p ++ 46 :: r == r
        · rfl
        · have := congrArg List.length (beq_iff_eq.mp hx); simp at this; omega
      rw [this]; rfl
    by_cases hn : q.getLast? = some 10
    · obtain ⟨r, rfl⟩ : ∃ r, q = r ++ [10] := by
        exact List.getLast?_eq_some_iff.mp hn
      refine key r ?_ (fun hm => h (List.mem_append_left _ hm)) (figs_nl false r)
      unfold core
      have e : p ++ 46 :: (r ++ [10]) = (p ++ 46 :: r) ++ [10] := by simp
      rw [e, if_pos List.getLast?_concat, List.dropLast_concat]
    · refine key q ?_ h (figs_plain false q hn)
      unfold core
      rw [if_neg]
      cases q with
      | nil => simp
      | cons c q =>
        rw [List.getLast?_append, List.getLast?_cons_cons]
        cases hq : (c :: q).getLast? with
        | none => simp at hq
        | some z => rw [hq] at hn; exact hn
end Mine
namespace Mine
open PySem PyProof.Rows

theorem clip_nat' (n k : Nat) : clip n (k : Int) = min k n := by unfold clip; rw [if_neg (by omega)]; omega
theorem sl_from (A : List Nat) (k : Nat) : slice (sD A) (.int k) .none = some (sD (A.drop k)) := by
  show some (PyData.str (mkS ((A.drop (clip A.length (k : Int))).take (A.length - clip A.length (k : Int))))) = _
  rw [clip_nat', List.take_of_length_le (by simp)]
  by_cases h : k ≤ A.length
  · rw [Nat.min_eq_left h]
  · rw [Nat.min_eq_right (by omega), List.drop_eq_nil_of_le (Nat.le_refl _), List.drop_eq_nil_of_le (by omega)]
theorem sl_to (A : List Nat) (k : Nat) : slice (sD A) .none (.int k) = some (sD (A.take k)) := by
  show some (PyData.str (mkS ((A.drop 0).take (clip A.length (k : Int) - 0)))) = _
  rw [clip_nat', List.drop_zero, Nat.sub_zero]
  by_cases h : k ≤ A.length
  · rw [Nat.min_eq_left h]
  · rw [Nat.min_eq_right (by omega), List.take_length, List.take_of_length_le (by omega)]
theorem m_split {C : List Nat} (h : C.length ≤ 1048576) : method1 .split (sD C) (.str ".") = some (.list ((splitDot C).map sD)) := by
  show (if ("." : Str).length ≠ 0 ∧ (mkS C).length ≤ 1048576 then some (PyData.list ((Txt.split (mkS C) ".").map PyData.str)) else none) = _
  rw [if_pos ⟨by decide +kernel, by rw [mkS_len]; exact h⟩, dot_eq, split_l, List.map_map]; rfl
theorem dig_in (c : Nat) : contains (.str "0123456789") (sD [c]) = some (dig c) := by
  show some (Txt.contains "0123456789" (mkS [c])) = _
  rw [show ("0123456789" : Str) = mkS (List.range' 48 10) from by decide +kernel, contains_one]
  congr 1
  rw [Bool.eq_iff_iff, List.contains_iff_mem, List.mem_range'_1]
  show _ ↔ (decide (48 ≤ c) && decide (c ≤ 57)) = true
  rw [Bool.and_eq_true, decide_eq_true_eq, decide_eq_true_eq]
  exact and_congr_right fun _ => Nat.lt_succ_iff
theorem nofig_nil : ∀ (q : List Nat), ((q.filter fun c => !dig c).map (fun c => [c]) == []) = q.all dig
  | [] => rfl
  | c :: r => by
    rw [List.filter_cons, List.all_cons]
    cases hd : dig c
    · rfl
    · exact nofig_nil r
/-- the signs that are no figures: none -/
theorem nofig_ev {Φ : List (List D → Option D)} {τ : List (Option D)} {i k : Nat} (q : List Nat) (h : τ[i]? = some (some (sD q))) (hk : k = τ.length) : ev Φ (.cmp .eq (.comp (.var k) (.var i) (.cmp .notin (.var k) (.cstr "0123456789"))) (.list .anil)) τ = some (.bool (q.all dig)) := by
  have hv : ev Φ (.var i) τ = some (sD q) := by show (τ[i]?).bind id = _; rw [h]; rfl
  have hvk : ∀ d : D, ev Φ (.var k) (τ ++ [some d]) = some d := fun d => by
    show ((τ ++ [some d])[k]?).bind id = _
    subst hk; simp
  have hc : ev Φ (.comp (.var k) (.var i) (.cmp .notin (.var k) (.cstr "0123456789"))) τ = some (.list ((q.filter fun c => !dig c).map fun c => sD [c])) := by
    refine ev_comp (sD q) hv rfl (compM_map (fun c => sD [c]) (fun c => !dig c) (fun c => sD [c]) q fun c _ => ⟨?_, fun _ => hvk _⟩)
    show (((ev Φ (.var k) (τ ++ [some (sD [c])])).bind fun x => (some (PyData.str "0123456789")).bind fun y => (cmpop .notin x y).map PyData.bool)).bind truth = _
    rw [hvk]
    show (((contains (.str "0123456789") (sD [c])).map (!·)).map PyData.bool).bind truth = _
    rw [dig_in]; rfl
  show ((ev Φ (.comp (.var k) (.var i) (.cmp .notin (.var k) (.cstr "0123456789"))) τ).bind fun x => (some (PyData.list [])).bind fun y => (cmpop .eq x y).map PyData.bool) = _
  rw [hc]
  have := cmp_eq_sDs ((q.filter fun c => !dig c).map fun c => [c]) []
  rw [List.map_map] at this
  show (cmpop .eq (.list ((q.filter fun c => !dig c).map fun c => sD [c])) (.list [])).map PyData.bool = _
  rw [show cmpop .eq (.list ((q.filter fun c => !dig c).map fun c => sD [c])) (.list []) = _ from this]
  show some (PyData.bool _) = _
  rw [nofig_nil]

end Mine
namespace Mine
open PySem PyProof.Rows

theorem len_map {α : Type} (f : α → D) (l : List α) : length (.list (l.map f)) = some (.int l.length) := by
  show some (PyData.int ((l.map f).length : Nat)) = _
  rw [List.length_map]
theorem range_ok {n : Nat} (h : n ≤ 1000000) : range? (.int 0) (.int n) = some (rangeL 0 n) := by
  show (if (0 : Int).natAbs < 2 ^ 40 ∧ ((n : Int)).natAbs < 2 ^ 40 ∧ ((n : Int) - 0).toNat ≤ 16777216 then _ else _) = _
  rw [if_pos ⟨by decide, by omega, by omega⟩]
theorem sl_toL {α : Type} (f : α → D) (l : List α) (k : Nat) : slice (.list (l.map f)) .none (.int k) = some (.list ((l.take k).map f)) := by
  show some (PyData.list (((l.map f).drop 0).take (clip (l.map f).length (k : Int) - 0))) = _
  rw [clip_nat', List.drop_zero, Nat.sub_zero, List.length_map]
  by_cases h : k ≤ l.length
  · rw [Nat.min_eq_left h, List.map_take]
  · rw [Nat.min_eq_right (by omega), ← List.map_take, List.take_length, List.take_of_length_le (by omega)]
/-- lists of truth values -/
theorem ok_bools {α : Type} (n : Nat) (p : α → Bool) (l : List α) : okN (n + 1) (.list (l.map fun x => .bool (p x))) = true := by
  show (l.map fun x => PyData.bool (p x)).all (okN n) = true
  rw [List.all_map]
  exact List.all_eq_true.mpr fun x _ => by cases n <;> rfl
/-! an order, and the greatest of a row -/
section
variable {α : Type} (s : α → List Nat) (R : α → α → Bool)
/-- the first of each -/
noncomputable def firsts : List (List Nat) → List α → List α
  | _, [] => []
  | pre, t :: r => if pre.contains (s t) then firsts (pre ++ [s t]) r else t :: firsts (pre ++ [s t]) r
noncomputable def strict (a b : α) : Bool := R a b && !(s a == s b)
/-- the greatest, the first of each -/
noncomputable def greatest (L : List α) : List α := (firsts s [] L).filter fun x => !L.any (strict s R x)
noncomputable def keep (kept : List α) (t : α) : List α := if kept.any (R t) then kept else (kept.filter fun x => !R x t) ++ [t]
structure KInv (L kept : List α) : Prop where
  is : kept = greatest s R L
  up : ∀ y ∈ L, ∃ z ∈ kept, R y z = true
end
end Mine
namespace Mine
open PySem PyProof.Rows

theorem filter_no {α : Type} (l : List α) : (l.filter fun _ => false) = [] := List.filter_eq_nil_iff.mpr fun _ _ => Bool.false_ne_true

/-! the order of the rules -/
theorem udm_iff {A B : List Nat} : udm A B = true ↔ A = B ∨ (B.head? = some 46 ∧ B <:+ A ∧ ipL A = false) := by
  unfold udm
  simp only [Bool.or_eq_true, beq_iff_eq, Bool.and_eq_true, List.isSuffixOf_iff_suffix, Bool.not_eq_true']
  constructor
  · rintro (h | ⟨⟨h1, h2⟩, h3⟩)
    · exact .inl h
    · exact .inr ⟨h1, h2, h3⟩
  · rintro (h | ⟨h1, h2, h3⟩)
    · exact .inl h
    · exact .inr ⟨⟨h1, h2⟩, h3⟩
noncomputable abbrev R (a b : List Nat) : Bool := udm (lo a) (lo b)

/-! the script -/
theorem ok_ints (n : Nat) (is : List Int) : okN (n + 1) (.list (is.map .int)) = true := by
  show (is.map PyData.int).all (okN n) = true
  rw [List.all_map]
  exact List.all_eq_true.mpr fun x _ => by cases n <;> rfl
theorem script_ev (Φ : List (List D → Option D)) {τ : List (Option D)} (is js : List Int) {y : X} (h : τ[0]? = some (some (.list (is.map .int)))) (hy : ev Φ y τ = some (.list (js.map .int))) :
    ev Φ (.ite (.cmp .eq (.var 0) (.list .anil)) y (.var 0)) τ = some (.list ((if is = [] then js else is).map .int)) := by
  have hv : ev Φ (.var 0) τ = some (.list (is.map .int)) := by show (τ[0]?).bind id = _; rw [h]; rfl
  show (((ev Φ (.var 0) τ).bind fun x => (some (PyData.list [])).bind fun y => (cmpop .eq x y).map PyData.bool).bind fun x => (truth x).bind fun t => if t then ev Φ y τ else ev Φ (.var 0) τ) = _
  rw [hv, hy]
  show (((if (kin (.list (is.map .int)) (.list []) && okN 6 (.list (is.map .int)) && okN 6 (.list [])) = true then some (PyData.eqvAll (is.map .int) []) else none).map PyData.bool).bind fun x => (truth x).bind fun t => if t then some (PyData.list (js.map .int)) else some (.list (is.map .int))) = _
  rw [ok_ints]
  cases is <;> rfl

/-- texts that the rules can be asked of -/
noncomputable def Fine (t : List Nat) : Prop := ascii t ∧ t.length ≤ 100
theorem call1 {a b : List Nat} (ha : Fine a) (hb : Fine b) : f1 [sD a, sD b] = some (.bool (R a b)) := udm_ok ha.1 hb.1 (by have := ha.2; omega) (by have := hb.2; omega)

section
variable {Φ : List (List D → Option D)} {σ : List Slot} {i f : Nat} {fz : List Nat} {x it : X} {l : List D} {o : Bool} {b : S} {d : D} {ds : List D}
theorem run_forF (h : ev Φ it (fzs (freezeAt σ (f :: fz))) = some d) (hd : items d = some ds) : run Φ ipv4 2000 (.for1 i (f :: fz) it b) σ = forL (fun d σ => run Φ ipv4 2000 b (σ.set i (.frz d))) ds (freezeAt σ (f :: fz)) := by
  show ((ev Φ it (fzs (freezeAt σ (f :: fz)))).map fun d => (d, freezeAt σ (f :: fz))).bind _ = _
  rw [h]
  show (items d).bind _ = _
  rw [hd]; rfl
end
theorem m_upper {a : List Nat} (h : Fine a) : method0 .upper (sD a) = some (sD (a.map up1)) := by
  show (if (mkS a).length ≤ 5592405 then some (PyData.str (Txt.upper (mkS a))) else none) = _
  rw [if_pos (by rw [mkS_len]; have := h.2; omega), upper_l h.1]
theorem fine_upper {a : List Nat} (h : Fine a) : Fine (a.map up1) := ⟨fun c hc => by
  obtain ⟨d, hd, rfl⟩ := List.mem_map.mp hc
  have := h.1 d hd
  unfold up1; split <;> omega, by rw [List.length_map]; exact h.2⟩

section
variable {Φ : List (List D → Option D)} {τ : List (Option D)} {a b : X} {x y d : D} {f : Nat} {g : List D → Option D}
theorem ev_call1 (h1 : ev Φ a τ = some x) (hf : Φ[f]? = some g) (hg : g [x] = some d) : ev Φ (.call f (.acons a .anil)) τ = some d := by
  simp only [ev, h1, tup?, Option.bind_some, hf, hg]
theorem ev_not {t : Bool} (h1 : ev Φ a τ = some x) (ht : truth x = some t) : ev Φ (.not a) τ = some (.bool (!t)) := by
  simp only [ev, h1, ht, Option.bind_some, Option.map_some]
theorem ev_andB {t : Bool} (h1 : ev Φ a τ = some (.bool t)) (h2 : t = true → ev Φ b τ = some d) (h3 : t = false → d = .bool false) : ev Φ (.and a b) τ = some d := by
  cases t with
  | true => simp only [ev, h1, truth, Option.bind_some, if_true, h2 rfl]
  | false => rw [h3 rfl]; simp only [ev, h1, truth, Option.bind_some, Bool.false_eq_true, if_false]
theorem ev_and {t u : Bool} (h1 : ev Φ a τ = some (.bool t)) (h2 : ev Φ b τ = some (.bool u)) : ev Φ (.and a b) τ = some (.bool (t && u)) :=
  ev_andB h1 (fun h => by rw [h, h2]; rfl) fun h => by rw [h]; rfl
theorem ev_cmp {op : COp} {r : Bool} (h1 : ev Φ a τ = some x) (h2 : ev Φ b τ = some y) (h : cmpop op x y = some r) : ev Φ (.cmp op a b) τ = some (.bool r) := by
  simp only [ev, h1, h2, h, Option.bind_some, Option.map_some]
theorem ev_idx (h1 : ev Φ a τ = some x) (h2 : ev Φ b τ = some y) (h : index x y = some d) : ev Φ (.idx a b) τ = some d := by
  simp only [ev, h1, h2, h, Option.bind_some]
theorem ev_len (h1 : ev Φ a τ = some x) (h : length x = some d) : ev Φ (.len a) τ = some d := by
  simp only [ev, h1, h, Option.bind_some]
end
end Mine
namespace Mine
open PySem PyProof.Rows

/-! the program's parts -/
noncomputable def Snum : S := (.seq (.assign 1 [] false (.ite (.cmp .eq (.slice (.var 0) .cnone (.cint (1))) (.cstr "\n")) (.slice (.var 0) (.cint (1)) .cnone) (.var 0))) (.seq (.assign 2 [] false (.idx (.meth1 .split (.var 1) (.cstr ".")) (.cint (0)))) (.seq (.ret (.and (.cmp .ne (.var 1) (.var 2)) (.and (.cmp .ne (.var 2) (.cstr "")) (.cmp .eq (.comp (.var 3) (.var 2) (.cmp .notin (.var 3) (.cstr "0123456789"))) (.list .anil))))) .skip)))
noncomputable def t6 : List D → Option D := fnOut [f0, f1] ipv4 2000 (S2 40) 4 1
noncomputable def n6 : List D → Option D := fnOut [f0, f1, t6] ipv4 2000 Snum 3 1
noncomputable def w6 : List (List D → Option D) := [f0, f1, t6, n6]
noncomputable def Sa6 : S := (.seq (.assign 1 [] true (.slice (.call 2 (.acons (.ite (.cmp .eq (.var 0) (.list .anil)) (.list (.acons (.cint (1)) (.acons (.cint (3)) (.acons (.cint (0)) (.acons (.cint (5)) (.acons (.cint (2)) (.acons (.cint (4)) (.acons (.cint (0)) (.acons (.cint (3)) (.acons (.cint (0)) (.acons (.cint (4)) .anil))))))))))) (.var 0)) .anil)) .cnone (.cint (8)))) (.seq (.append 1 (.meth0 .upper (.idx (.var 1) (.cint (0))))) .skip))
noncomputable def key6 : X := (.rev (.meth0 .lower (.var 9)))
noncomputable def Sb6 : S := (.seq (.assign 3 [] false (.comp (.rev (.meth0 .lower (.var 9))) (.var 2) (.cbool true))) (.seq (.for1 4 [1] (.var 1) (.seq (.assign 5 [] false (.comp (.call 1 (.acons (.var 9) (.acons (.var 4) .anil))) (.var 2) (.cbool true))) (.seq (.ite (.cmp .ne (.comp (.var 9) (.var 5) (.not (.isBool (.var 9)))) (.list .anil)) (.seq (.ret (.cbool false)) .skip) .skip) (.seq (.assign 6 [] false (.rev (.meth0 .lower (.var 4)))) (.seq (.assign 7 [] false (.len (.comp (.var 9) (.var 3) (.cmp .lt (.var 9) (.var 6))))) (.seq (.ite (.and (.cmp .eq (.slice (.var 4) .cnone (.cint (1))) (.cstr ".")) (.not (.call 3 (.acons (.var 6) .anil)))) (.seq (.assign 8 [] false (.len (.comp (.var 9) (.var 3) (.cmp .le (.slice (.var 9) .cnone (.len (.var 6))) (.var 6))))) .skip) (.seq (.assign 8 [] false (.len (.comp (.var 9) (.var 3) (.cmp .le (.var 9) (.var 6))))) .skip)) (.seq (.ite (.cmp .ne (.var 5) (.comp (.cmp2 .le .lt (.var 7) (.var 9) (.var 8)) (.range (.cint (0)) (.len (.var 2))) (.cbool true))) (.seq (.ret (.cbool false)) .skip) .skip) .skip))))))) (.seq (.ret (.cbool true)) .skip)))

/-! the order of the readings -/
noncomputable def rk (t : List Nat) : List Nat := (lo t).reverse
theorem lt_of_take : ∀ (n : Nat) (x y : List Nat), x.take n < y.take n → x < y
  | 0, x, y, h => by simp at h
  | n + 1, [], [], h => by simp at h
  | n + 1, [], d :: y, h => List.nil_lt_cons d y
  | n + 1, c :: x, [], h => by simp at h
  | n + 1, c :: x, d :: y, h => by
    rw [List.take_succ_cons, List.take_succ_cons, List.cons_lt_cons_iff] at h
    rw [List.cons_lt_cons_iff]
    rcases h with h | ⟨h1, h2⟩
    · exact .inl h
    · exact .inr ⟨h1, lt_of_take n x y h2⟩
theorem lt_anti {a b : List Nat} (h1 : ¬ a < b) (h2 : ¬ b < a) : a = b := List.le_antisymm (List.not_lt.mp h2) (List.not_lt.mp h1)
theorem le_trans' {a b c : List Nat} (h1 : ¬ b < a) (h2 : ¬ c < b) : ¬ c < a := fun h => by
  by_cases q : a < b
  · exact h2 (List.lt_trans h q)
  · rw [lt_anti q h1] at h; exact h2 h
theorem prefix_iff {a r : List Nat} : (¬ r < a ∧ ¬ a < r.take a.length) ↔ a <+: r := by
  constructor
  · rintro ⟨h1, h2⟩
    have h3 : ¬ r.take a.length < a := fun h => h1 (lt_of_take a.length r a (by rw [List.take_length]; exact h))
    exact List.prefix_iff_eq_take.mpr (lt_anti h2 h3)
  · intro h
    have e := List.prefix_iff_eq_take.mp h
    refine ⟨fun hlt => ?_, by rw [← e]; exact List.lt_irrefl a⟩
    obtain ⟨t, rfl⟩ := h
    have : ∀ (a t : List Nat), ¬ a ++ t < a := fun a t => by
      induction a with
      | nil => simp
      | cons c a ih =>
        rw [List.cons_append, List.cons_lt_cons_iff]
        rintro (h | ⟨_, h⟩)
        · exact Nat.lt_irrefl _ h
        · exact ih h
    exact this a t hlt
/-- those at the beginning of a row -/
theorem front {α : Type} {p : α → Bool} : ∀ {M : List α}, M.Pairwise (fun a b => p b = true → p a = true) → ∀ (k : Nat) (hk : k < M.length), decide (k < (M.filter p).length) = p M[k]
  | x :: M, hp, k, hk => by
    rw [List.pairwise_cons] at hp
    cases hx : p x with
    | true =>
      rw [List.filter_cons_of_pos hx, List.length_cons]
      cases k with
      | zero => show _ = p x; rw [hx]; simp
      | succ k =>
        have hk' : k < M.length := by simpa using hk
        show _ = p M[k]
        rw [← front hp.2 k hk']
        congr 1
        exact propext ⟨fun h => by omega, fun h => by omega⟩
    | false =>
      have hn : ∀ b ∈ M, p b = false := fun b hb => by
        cases q : p b
        · rfl
        · rw [hp.1 b hb q] at hx; cases hx
      rw [List.filter_cons_of_neg (by rw [hx]; exact Bool.false_ne_true), List.filter_eq_nil_iff.mpr (fun b hb => by rw [hn b hb]; exact Bool.false_ne_true)]
      have : p (x :: M)[k] = false := by
        cases k with
        | zero => exact hx
        | succ k => exact hn _ (List.getElem_mem ..)
      rw [this]; simp
theorem ipL_same {A T : List Nat} (h : A.head? = some 46) (hs : A <:+ T) : ipL T = ipL A := by
  obtain ⟨u, rfl⟩ := hs
  rcases dot_or A with hd | ⟨p, q, hq, rfl⟩
  · cases A with
    | nil => cases h
    | cons c r => exact absurd (by simp at h; rw [h]; simp) hd
  · rw [ipL_last hq, ← List.append_assoc, ipL_last hq]
theorem lo1_dot (c : Nat) : lo1 c = 46 ↔ c = 46 := by
  unfold lo1
  split <;> omega
theorem lo_head (t : List Nat) : (lo t).head? = some 46 ↔ t.head? = some 46 := by
  cases t with
  | nil => exact Iff.rfl
  | cons c r => show some (lo1 c) = some 46 ↔ some c = some 46; simp [lo1_dot]

noncomputable def low6 (M : List (List Nat)) (r : List Nat) : Nat := (M.filter fun t => decide (rk t < rk r)).length
noncomputable def high6 (M : List (List Nat)) (r : List Nat) : Nat :=
  if (r.head? == some 46 && !ipL (lo r)) = true then (M.filter fun t => !decide (rk r < (rk t).take (rk r).length)).length else (M.filter fun t => !decide (rk r < rk t)).length
theorem plain6 {M : List (List Nat)} (r : List Nat) (hs : M.Pairwise fun a b => ¬ rk b < rk a) (k : Nat) (hk : k < M.length) : R M[k] r = (decide (low6 M r ≤ k) && decide (k < high6 M r)) := by
  have h1 := front (p := fun t => decide (rk t < rk r)) (M := M) (hs.imp fun {a b} h hb => by
    simp only [decide_eq_true_eq] at hb ⊢
    by_cases q : rk a < rk b
    · exact List.lt_trans q hb
    · rw [lt_anti q h]; exact hb) k hk
  have e1 : decide (low6 M r ≤ k) = !decide (rk M[k] < rk r) := by
    rw [← h1]
    unfold low6
    rw [← decide_not]
    congr 1
    exact propext ⟨fun h => by omega, fun h => by omega⟩
  have suf : ∀ t, (rk r <+: rk t) ↔ lo r <:+ lo t := fun t => by unfold rk; exact List.reverse_prefix
  have same : ∀ t, (¬ rk t < rk r ∧ ¬ rk r < rk t) ↔ lo t = lo r := fun t =>
    ⟨fun h => List.reverse_inj.mp (lt_anti h.1 h.2), fun h => by unfold rk; rw [h]; exact ⟨List.lt_irrefl _, List.lt_irrefl _⟩⟩
  rw [e1]
  unfold high6
  by_cases hc : (r.head? == some 46 && !ipL (lo r)) = true
  · rw [if_pos hc]
    rw [Bool.and_eq_true, beq_iff_eq, Bool.not_eq_true'] at hc
    have h2 := front (p := fun t => !decide (rk r < (rk t).take (rk r).length)) (M := M) (hs.imp fun {a b} h hb => by
      simp only [Bool.not_eq_true', decide_eq_false_iff_not] at hb ⊢
      exact le_trans' (fun q => h (lt_of_take _ _ _ q)) hb) k hk
    rw [h2, Bool.eq_iff_iff, udm_iff]
    simp only [Bool.and_eq_true, Bool.not_eq_true', decide_eq_false_iff_not]
    rw [prefix_iff, suf]
    constructor
    · rintro (h | ⟨_, h, _⟩)
      · rw [h]; exact List.suffix_refl _
      · exact h
    · intro h
      have hd := (lo_head r).mpr hc.1
      exact .inr ⟨hd, h, by rw [ipL_same hd h]; exact hc.2⟩
  · rw [if_neg hc]
    have h2 := front (p := fun t => !decide (rk r < rk t)) (M := M) (hs.imp fun {a b} h hb => by
      simp only [Bool.not_eq_true', decide_eq_false_iff_not] at hb ⊢
      exact le_trans' h hb) k hk
    rw [h2, Bool.eq_iff_iff, udm_iff]
    simp only [Bool.and_eq_true, Bool.not_eq_true', decide_eq_false_iff_not]
    rw [same]
    constructor
    · rintro (h | ⟨hd, h, hi⟩)
      · exact h
      · exfalso
        apply hc
        rw [Bool.and_eq_true, beq_iff_eq, Bool.not_eq_true']
        exact ⟨(lo_head r).mp hd, by rw [← ipL_same hd h]; exact hi⟩
    · exact .inl
end Mine
namespace Mine
open PySem PyProof.Rows

/-! a reading that begins with figures and a dot -/
theorem first_piece (X : List Nat) : (splitDot X.reverse).headD [] = (lastP X).reverse := by
  rcases dot_or X with hd | ⟨p, q, hq, rfl⟩
  · rw [lastP_no hd, splitDot_none _ (by simpa using hd)]; rfl
  · rw [splitDot_last p hq, List.reverse_append, List.reverse_cons, List.append_assoc, List.singleton_append, splitDot_append _ (by simpa using hq)]; rfl
theorem idx_first (l : List (List Nat)) (h : l ≠ []) : index (.list (l.map sD)) (.int 0) = some (sD (l.headD [])) := by
  cases l with
  | nil => exact absurd rfl h
  | cons a r => rfl
theorem core_rev (A : List Nat) : (if (A.reverse.take 1 == [10]) = true then A.reverse.drop 1 else A.reverse) = (core A).reverse := by
  unfold core
  rcases List.eq_nil_or_concat A with rfl | ⟨w, x, rfl⟩
  · rfl
  · rw [List.concat_eq_append, List.reverse_append, List.reverse_cons, List.reverse_nil, List.nil_append, List.singleton_append]
    rw [List.getLast?_append, List.getLast?_singleton, Option.some_or, List.dropLast_concat]
    show (if ([x] == [10]) = true then w.reverse else x :: w.reverse) = _
    by_cases h : x = 10
    · subst h; rw [if_pos rfl, if_pos (by decide)]
    · rw [if_neg (by simpa using h), if_neg (by simpa using h)]; simp
theorem rev_eq (a b : List Nat) : (a.reverse == b.reverse) = (a == b) := by
  rw [Bool.eq_iff_iff, beq_iff_eq, beq_iff_eq, List.reverse_inj]
theorem cmp_eqS (a b : List Nat) : cmpop .eq (sD a) (sD b) = some (a == b) := by
  show some (PyData.eqv (sD a) (sD b)) = _
  rw [eqv_sD]
theorem cmp_neS (a b : List Nat) : cmpop .ne (sD a) (sD b) = some (!(a == b)) := by
  show some (!PyData.eqv (sD a) (sD b)) = _
  rw [eqv_sD]
theorem ev_ite' {Φ : List (List D → Option D)} {τ : List (Option D)} {a b c : X} {d : D} {t : Bool} (h1 : ev Φ a τ = some (.bool t)) (h2 : t = true → ev Φ b τ = some d) (h3 : t = false → ev Φ c τ = some d) : ev Φ (.ite a b c) τ = some d := by
  cases t with
  | true => simp only [ev, h1, truth, Option.bind_some, if_true, h2 rfl]
  | false => simp only [ev, h1, truth, Option.bind_some, Bool.false_eq_true, if_false, h3 rfl]
theorem ev_slice {Φ : List (List D → Option D)} {τ : List (Option D)} {a b c : X} {x y z d : D} (h1 : ev Φ a τ = some x) (h2 : ev Φ b τ = some y) (h3 : ev Φ c τ = some z) (h : slice x y z = some d) : ev Φ (.slice a b c) τ = some d := by
  simp only [ev, h1, h2, h3, h, Option.bind_some]
theorem ev_v' {Φ : List (List D → Option D)} {τ : List (Option D)} {i : Nat} {x : D} (h : τ[i]? = some (some x)) : ev Φ (.var i) τ = some x := by
  show (τ[i]?).bind id = _; rw [h]; rfl
theorem num_ok (Φ : List (List D → Option D)) {A : List Nat} (hA : A.length ≤ 1000) : fnOut Φ ipv4 2000 Snum 3 1 [sD A.reverse] = some (.bool (ipL A)) := by
  have hcl : (core A).length ≤ 1000 := by by_cases q : A.getLast? = some 10 <;> simp only [core, q, if_true, if_false] <;> first | exact hA | (rw [List.length_dropLast]; omega)
  refine Ret.fn (b := Snum) rfl (.assign (sD (core A).reverse) ?_ (.assign (sD (lastP (core A)).reverse) ?_ (.ret ?_)))
  · rw [← core_rev]
    refine ev_ite' (ev_cmp (x := sD (A.reverse.take 1)) (y := sD [10]) (ev_slice (x := sD A.reverse) rfl rfl rfl (sl_to _ 1)) rfl (cmp_eqS _ _)) (fun h => ?_) fun h => ?_
    · rw [if_pos h]; exact ev_slice (x := sD A.reverse) rfl rfl rfl (sl_from _ 1)
    · rw [h, if_neg Bool.false_ne_true]; rfl
  · rw [← first_piece]
    refine ev_idx (x := .list ((splitDot (core A).reverse).map sD)) (y := .int 0) ?_ rfl (idx_first _ (splitDot_ne _))
    show method1 .split (sD (core A).reverse) (.str ".") = _
    exact m_split (by rw [List.length_reverse]; omega)
  · rw [ip_by_last A]
    have h3 := nofig_ev (Φ := Φ) (τ := alls [.frz (sD A.reverse), .frz (sD (core A).reverse), .frz (sD (lastP (core A)).reverse)]) (i := 2) (k := 3) (lastP (core A)).reverse rfl rfl
    rw [List.all_reverse] at h3
    refine ev_and (ev_cmp (x := sD (core A).reverse) (y := sD (lastP (core A)).reverse) rfl rfl ?_) (ev_and (ev_cmp (x := sD (lastP (core A)).reverse) (y := sD []) rfl rfl ?_) h3)
    · rw [cmp_neS, rev_eq]
    · rw [cmp_neS]
      congr 2
      exact rev_eq (lastP (core A)) []
end Mine
namespace Mine
open PySem PyProof.Rows

section
variable {Φ : List (List D → Option D)} {τ : List (Option D)}
theorem key_ev {t : List Nat} (ht : Fine t) {i : Nat} (h : τ[i]? = some (some (sD t))) : ev Φ (.rev (.meth0 .lower (.var i))) τ = some (sD (rk t)) := by
  have hv : ev Φ (.meth0 .lower (.var i)) τ = some (sD (lo t)) := by
    show (ev Φ (.var i) τ).bind (method0 .lower) = _
    rw [ev_v' h]
    exact m_lower ht.1 (by have := ht.2; omega)
  show (ev Φ (.meth0 .lower (.var i)) τ).bind revd = _
  rw [hv]; rfl
theorem len_comp {e it cd : X} {l : List D} (h : ev Φ (.comp e it cd) τ = some (.list l)) : ev Φ (.len (.comp e it cd)) τ = some (.int l.length) := by
  show (ev Φ (.comp e it cd) τ).bind length = _
  rw [h]; rfl
end

noncomputable def st6 (sc : D) (L M : List (List Nat)) (s : Slot × Slot × Slot × Slot × Slot) : List Slot := [.frz sc, .frz (.list (L.map sD)), .frz (.list (M.map sD)), .frz (.list (M.map fun t => sD (rk t))), s.1, s.2.1, s.2.2.1, s.2.2.2.1, s.2.2.2.2]
noncomputable def told6 (M : List (List Nat)) (r : List Nat) : List D := M.map fun t => .bool (R t r)
theorem told_is {M : List (List Nat)} (r : List Nat) (hs : M.Pairwise fun a b => ¬ rk b < rk a) : told6 M r = (List.range M.length).map fun k : Nat => .bool (decide (low6 M r ≤ k) && decide (k < high6 M r)) := by
  unfold told6
  refine List.ext_getElem (by simp) fun k h1 h2 => ?_
  rw [List.getElem_map, List.getElem_map, List.getElem_range, plain6 r hs k (by simpa using h1)]
noncomputable def B6 : S := (.seq (.assign 5 [] false (.comp (.call 1 (.acons (.var 9) (.acons (.var 4) .anil))) (.var 2) (.cbool true))) (.seq (.ite (.cmp .ne (.comp (.var 9) (.var 5) (.not (.isBool (.var 9)))) (.list .anil)) (.seq (.ret (.cbool false)) .skip) .skip) (.seq (.assign 6 [] false (.rev (.meth0 .lower (.var 4)))) (.seq (.assign 7 [] false (.len (.comp (.var 9) (.var 3) (.cmp .lt (.var 9) (.var 6))))) (.seq (.ite (.and (.cmp .eq (.slice (.var 4) .cnone (.cint (1))) (.cstr ".")) (.not (.call 3 (.acons (.var 6) .anil)))) (.seq (.assign 8 [] false (.len (.comp (.var 9) (.var 3) (.cmp .le (.slice (.var 9) .cnone (.len (.var 6))) (.var 6))))) .skip) (.seq (.assign 8 [] false (.len (.comp (.var 9) (.var 3) (.cmp .le (.var 9) (.var 6))))) .skip)) (.seq (.ite (.cmp .ne (.var 5) (.comp (.cmp2 .le .lt (.var 7) (.var 9) (.var 8)) (.range (.cint (0)) (.len (.var 2))) (.cbool true))) (.seq (.ret (.cbool false)) .skip) .skip) .skip))))))
theorem head_take (r : List Nat) : (r.take 1 == [46]) = (r.head? == some 46) := by
  cases r with
  | nil => rfl
  | cons c r => show ([c] == [46]) = (some c == some 46); rw [Bool.eq_iff_iff]; simp
theorem turn6 (sc : D) (L M : List (List Nat)) (hM : ∀ t ∈ M, Fine t) (hl : M.length ≤ 100) (hs : M.Pairwise fun a b => ¬ rk b < rk a) (r : List Nat) (hr : Fine r) (s : Slot × Slot × Slot × Slot × Slot) :
    ∃ s', run w6 ipv4 2000 B6 ((st6 sc L M s).set 4 (.frz (sD r))) = some (st6 sc L M s', .nxt) := by
  obtain ⟨s4, s5, s6, s7, s8⟩ := s
  let σ1 : List Slot := st6 sc L M (.frz (sD r), .frz (.list (told6 M r)), s6, s7, s8)
  let σ2 : List Slot := st6 sc L M (.frz (sD r), .frz (.list (told6 M r)), .frz (sD (rk r)), s7, s8)
  let σ3 : List Slot := st6 sc L M (.frz (sD r), .frz (.list (told6 M r)), .frz (sD (rk r)), .frz (.int (low6 M r : Nat)), s8)
  let σ4 : List Slot := st6 sc L M (.frz (sD r), .frz (.list (told6 M r)), .frz (sD (rk r)), .frz (.int (low6 M r : Nat)), .frz (.int (high6 M r : Nat)))
  have e1 : ev w6 (.comp (.call 1 (.acons (.var 9) (.acons (.var 4) .anil))) (.var 2) (.cbool true)) (fzs (st6 sc L M (.frz (sD r), s5, s6, s7, s8))) = some (.list (told6 M r)) :=
    ev_comp (.list (M.map sD)) rfl rfl (compM_mapT sD (fun t => .bool (R t r)) M (fun _ => rfl) fun t ht => by exact call1 (hM t ht) hr)
  have e2 : ev w6 (.cmp .ne (.comp (.var 9) (.var 5) (.not (.isBool (.var 9)))) (.list .anil)) (alls σ1) = some (.bool false) := by
    refine ev_cmp (x := .list []) (y := .list []) (ev_comp (.list (told6 M r)) rfl rfl ?_) rfl rfl
    unfold told6
    rw [compM_map (fun t => PyData.bool (R t r)) (fun _ => false) (fun _ => .none) M fun t _ => ⟨rfl, fun h => noB h⟩, filter_no]; rfl
  have e3 : ev w6 (.rev (.meth0 .lower (.var 4))) (fzs σ1) = some (sD (rk r)) := key_ev hr rfl
  have e4 : ev w6 (.len (.comp (.var 9) (.var 3) (.cmp .lt (.var 9) (.var 6)))) (fzs σ2) = some (.int (low6 M r : Nat)) := by
    have h : ev w6 (.comp (.var 9) (.var 3) (.cmp .lt (.var 9) (.var 6))) (fzs σ2) = some (.list ((M.filter fun t => decide (rk t < rk r)).map fun t => sD (rk t))) :=
      ev_comp (.list (M.map fun t => sD (rk t))) rfl rfl (compM_map (fun t => sD (rk t)) (fun t => decide (rk t < rk r)) (fun t => sD (rk t)) M fun t _ => ⟨rfl, fun _ => rfl⟩)
    rw [len_comp h, List.length_map]; rfl
  have e5 : ev w6 (.and (.cmp .eq (.slice (.var 4) .cnone (.cint (1))) (.cstr ".")) (.not (.call 3 (.acons (.var 6) .anil)))) (alls σ3) = some (.bool (r.head? == some 46 && !ipL (lo r))) := by
    refine ev_and (ev_cmp (x := sD (r.take 1)) (y := sD [46]) (ev_slice (x := sD r) rfl rfl rfl (sl_to r 1)) rfl ?_) (ev_not (x := .bool (ipL (lo r))) (ev_call1 (x := sD (rk r)) rfl rfl ?_) rfl)
    · rw [cmp_eqS, head_take]
    · exact num_ok _ (by rw [lo_len]; have := hr.2; omega)
  have e6 : (r.head? == some 46 && !ipL (lo r)) = true → ev w6 (.len (.comp (.var 9) (.var 3) (.cmp .le (.slice (.var 9) .cnone (.len (.var 6))) (.var 6)))) (fzs σ3) = some (.int (high6 M r : Nat)) := fun hc => by
    have h : ev w6 (.comp (.var 9) (.var 3) (.cmp .le (.slice (.var 9) .cnone (.len (.var 6))) (.var 6))) (fzs σ3) = some (.list ((M.filter fun t => !decide (rk r < (rk t).take (rk r).length)).map fun t => sD (rk t))) := by
      refine ev_comp (.list (M.map fun t => sD (rk t))) rfl rfl (compM_map (fun t => sD (rk t)) (fun t => !decide (rk r < (rk t).take (rk r).length)) (fun t => sD (rk t)) M fun t _ => ⟨?_, fun _ => rfl⟩)
      have : ev w6 (.cmp .le (.slice (.var 9) .cnone (.len (.var 6))) (.var 6)) (fzs σ3 ++ [some (sD (rk t))]) = some (.bool (!decide (rk r < (rk t).take (rk r).length))) := by
        refine ev_cmp (x := sD ((rk t).take (rk r).length)) (y := sD (rk r)) (ev_slice (x := sD (rk t)) (y := .none) (z := .int (rk r).length) rfl rfl (ev_len (x := sD (rk r)) rfl ?_) (sl_to (rk t) (rk r).length)) rfl rfl
        show some (PyData.int ((mkS (rk r)).length : Nat)) = _
        rw [mkS_len]
      exact (congrArg (·.bind truth) this).trans rfl
    rw [len_comp h, List.length_map]
    unfold high6
    rw [if_pos hc]
  have e7 : (r.head? == some 46 && !ipL (lo r)) = false → ev w6 (.len (.comp (.var 9) (.var 3) (.cmp .le (.var 9) (.var 6)))) (fzs σ3) = some (.int (high6 M r : Nat)) := fun hc => by
    have h : ev w6 (.comp (.var 9) (.var 3) (.cmp .le (.var 9) (.var 6))) (fzs σ3) = some (.list ((M.filter fun t => !decide (rk r < rk t)).map fun t => sD (rk t))) :=
      ev_comp (.list (M.map fun t => sD (rk t))) rfl rfl (compM_map (fun t => sD (rk t)) (fun t => !decide (rk r < rk t)) (fun t => sD (rk t)) M fun t _ => ⟨rfl, fun _ => rfl⟩)
    rw [len_comp h, List.length_map]
    unfold high6
    rw [hc, if_neg Bool.false_ne_true]
  have e8 : ev w6 (.cmp .ne (.var 5) (.comp (.cmp2 .le .lt (.var 7) (.var 9) (.var 8)) (.range (.cint (0)) (.len (.var 2))) (.cbool true))) (alls σ4) = some (.bool false) := by
    refine ev_cmp (x := .list (told6 M r)) (y := .list (told6 M r)) rfl ?_ ?_
    · rw [told_is r hs]
      refine ev_comp (.list (rangeL 0 M.length)) ?_ rfl ?_
      · show ((length (.list (M.map sD))).bind fun y => (range? (.int 0) y).map PyData.list) = _
        rw [len_map]
        show (range? (.int 0) (.int M.length)).map _ = _
        rw [range_ok (by omega)]; rfl
      · unfold rangeL
        rw [show ((M.length : Int) - 0).toNat = M.length from by omega]
        refine compM_mapT (fun k : Nat => PyData.int (0 + (k : Int))) (fun k : Nat => .bool (decide (low6 M r ≤ k) && decide (k < high6 M r))) _ (fun _ => rfl) fun k _ => ?_
        show (some (decide ((low6 M r : Int) ≤ 0 + (k : Int)))).bind (fun t => if t then (some (decide (0 + (k : Int) < (high6 M r : Int)))).map PyData.bool else some (PyData.bool false)) = _
        have h1 : decide ((low6 M r : Int) ≤ 0 + (k : Int)) = decide (low6 M r ≤ k) := by congr 1; exact propext ⟨fun h => by omega, fun h => by omega⟩
        have h2 : decide (0 + (k : Int) < (high6 M r : Int)) = decide (k < high6 M r) := by congr 1; exact propext ⟨fun h => by omega, fun h => by omega⟩
        rw [h1, h2]
        cases decide (low6 M r ≤ k) <;> rfl
    · have hok : okN 6 (.list (told6 M r)) = true := ok_bools 5 _ M
      show (if (kin _ _ && okN 6 (.list (told6 M r)) && okN 6 (.list (told6 M r))) = true then some (!PyData.eqv (.list (told6 M r)) (.list (told6 M r))) else none) = _
      rw [hok, eqv_self 6 _ hok]; rfl
  refine ⟨(.frz (sD r), .frz (.list (told6 M r)), .frz (sD (rk r)), .frz (.int (low6 M r : Nat)), .frz (.int (high6 M r : Nat))), ?_⟩
  unfold B6
  refine (run_seq (σ₁ := σ1) (run_assign e1)).trans ?_
  refine (run_seq (σ₁ := σ1) ((run_ite e2 rfl).trans rfl)).trans ?_
  refine (run_seq (σ₁ := σ2) (run_assign e3)).trans ?_
  refine (run_seq (σ₁ := σ3) (run_assign e4)).trans ?_
  refine (run_seq (σ₁ := σ4) ?_).trans ?_
  · rw [run_ite e5 rfl]
    cases hc : (r.head? == some 46 && !ipL (lo r))
    · rw [if_neg Bool.false_ne_true, run_one]; exact run_assign (e7 hc)
    · rw [if_pos rfl, run_one]; exact run_assign (e6 hc)
  · rw [run_one]
    exact (run_ite e8 rfl).trans rfl
end Mine
namespace Mine
open PySem PyProof.Rows

theorem paired_graph {α β : Type} (g : α → β) : ∀ L : List α, PySem.Paired (fun p t => p = g t) (L.map g) L
  | [] => .nil
  | _ :: r => .cons rfl (paired_graph g r)
theorem paired_is {α β : Type} {g : α → β} {ps : List β} {M : List α} (h : PySem.Paired (fun p t => p = g t) ps M) : ps = M.map g := by
  induction h with
  | nil => rfl
  | cons h1 _ ih => rw [List.map_cons, ← h1, ← ih]
/-- an order that the keys of a row allow -/
theorem sort_is {α : Type} {kf df : α → D} {L : List α} {out : List D} (h : SortOf (L.map kf) (L.map df) out) : ∃ M : List α, M.Perm L ∧ M.Pairwise (fun a b => keyLe (kf a) (kf b) = true) ∧ out = M.map df := by
  obtain ⟨ps, h1, h2, h3⟩ := h
  rw [List.zip_map'] at h1
  obtain ⟨M, p, q⟩ := paired_perm h1 (paired_graph (fun a => (kf a, df a)) L)
  have e := paired_is q
  subst e
  refine ⟨M, p, ?_, ?_⟩
  · rw [List.pairwise_map] at h2; exact h2
  · rw [h3, List.map_map]; rfl

theorem loop6 (sc : D) (L M : List (List Nat)) (hM : ∀ t ∈ M, Fine t) (hl : M.length ≤ 100) (hs : M.Pairwise fun a b => ¬ rk b < rk a) : ∀ (rs : List (List Nat)) (s : Slot × Slot × Slot × Slot × Slot), (∀ t ∈ rs, Fine t) → ∃ s', forL (fun d σ => run w6 ipv4 2000 B6 (σ.set 4 (.frz d))) (rs.map sD) (st6 sc L M s) = some (st6 sc L M s', .nxt)
  | [], s, _ => ⟨s, rfl⟩
  | r :: rs, s, h => by
    obtain ⟨s1, e1⟩ := turn6 sc L M hM hl hs r (h r (List.mem_cons_self ..)) s
    obtain ⟨s2, e2⟩ := loop6 sc L M hM hl hs rs s1 fun t ht => h t (List.mem_cons_of_mem _ ht)
    exact ⟨s2, by rw [List.map_cons, forL_step' e1 (.inl rfl), e2]⟩
theorem law6 (is : List Int) : LawPure [f0, f1, t6, n6] ipv4 2000 Sa6 Sb6 (.var 1) key6 2 none (.frz (.list (is.map .int)) :: List.replicate (9 - 1) .unset) := by
  obtain ⟨ts0, h0, e0⟩ := tx_ok [f0, f1] 40 (by decide) (if is = [] then [1, 3, 0, 5, 2, 4, 0, 3, 0, 4] else is)
  have hf0 : ∀ t ∈ ts0.take 8, Fine t := fun t ht => ⟨(h0.ok t (List.mem_of_mem_take ht)).ascii, by have := (h0.ok t (List.mem_of_mem_take ht)).le; omega⟩
  obtain ⟨t0, r0, hr0⟩ : ∃ t r, ts0.take 8 = t :: r := by
    cases ts0 with
    | nil => exact absurd rfl h0.ne
    | cons t r => exact ⟨t, _, rfl⟩
  have ht0 : Fine t0 := hf0 t0 (by rw [hr0]; simp)
  have hts : ∀ t ∈ ts0.take 8 ++ [t0.map up1], Fine t := fun t ht => by
    rcases List.mem_append.mp ht with ht | ht
    · exact hf0 t ht
    · rw [List.mem_singleton.mp ht]; exact fine_upper ht0
  have hl8 : (ts0.take 8).length ≤ 8 := by rw [List.length_take]; omega
  have hlen : (ts0.take 8 ++ [t0.map up1]).length ≤ 9 := by rw [List.length_append]; show _ + 1 ≤ _; omega
  generalize hT : ts0.take 8 ++ [t0.map up1] = L at hts hlen
  refine ⟨⟨[.frz (.list (is.map .int)), .own (L.map sD), .unset, .unset, .unset, .unset, .unset, .unset, .unset], [1], L.map sD, L.map fun t => sD (rk t), ?_, rfl, ?_, ?_, by simp, by rw [List.length_map]; omega, fun out hs => ?_⟩⟩
  · unfold Sa6
    refine (run_seq (run_assign (d := .list ((ts0.take 8).map sD)) ?_)).trans ?_
    · have hs := script_ev w6 (τ := fzs (.frz (.list (is.map .int)) :: List.replicate (9 - 1) .unset)) is [1, 3, 0, 5, 2, 4, 0, 3, 0, 4] (y := .list (.acons (.cint (1)) (.acons (.cint (3)) (.acons (.cint (0)) (.acons (.cint (5)) (.acons (.cint (2)) (.acons (.cint (4)) (.acons (.cint (0)) (.acons (.cint (3)) (.acons (.cint (0)) (.acons (.cint (4)) .anil))))))))))) rfl rfl
      exact ev_slice (x := .list (ts0.map sD)) (y := .none) (z := .int 8) (ev_call1 hs rfl e0) rfl rfl (sl_toL sD ts0 8)
    rw [run_one]
    refine (run_append (l := (ts0.take 8).map sD) (d := sD (t0.map up1)) rfl (by rw [List.length_map]; omega) ?_ rfl).trans ?_
    · show ((index (.list ((ts0.take 8).map sD)) (.int 0)).bind fun x => method0 .upper x) = _
      rw [hr0]
      exact m_upper ht0
    · rw [← hT, List.map_append]; rfl
  · intro i d k hd hk
    rw [List.getElem?_map] at hd hk
    obtain ⟨t, h1, rfl⟩ := Option.map_eq_some_iff.mp hd
    rw [h1] at hk
    cases hk
    exact key_ev (hts t (List.mem_of_getElem? h1)) (i := 9) rfl
  · intro k hk
    obtain ⟨t, _, rfl⟩ := List.mem_map.mp hk
    rfl
  · obtain ⟨M, hp, hpw, rfl⟩ := sort_is hs
    have hM : ∀ t ∈ M, Fine t := fun t ht => hts t (hp.mem_iff.mp ht)
    have hlM : M.length ≤ 100 := by rw [hp.length_eq]; omega
    have hsM : M.Pairwise fun a b => ¬ rk b < rk a := hpw.imp fun {a b} h => by
      have h' : (!decide (rk b < rk a)) = true := h
      simpa using h'
    obtain ⟨s', el⟩ := loop6 (.list (is.map .int)) L M hM hlM hsM L (.unset, .unset, .unset, .unset, .unset) hts
    have hret : Ret w6 Sb6 [.frz (.list (is.map .int)), .frz (.list (L.map sD)), .frz (.list (M.map sD)), .unset, .unset, .unset, .unset, .unset, .unset] (.bool true) := by
      refine .assign (.list (M.map fun t => sD (rk t))) ?_ (.step (σ₁ := st6 (.list (is.map .int)) L M s') ((run_forF (d := .list (L.map sD)) rfl rfl).trans el) (.ret rfl))
      exact ev_comp (.list (M.map sD)) rfl rfl (compM_mapT sD (fun t => sD (rk t)) M (fun _ => rfl) fun t ht => key_ev (hM t ht) (i := 9) rfl)
    obtain ⟨σ', e⟩ := hret
    exact ⟨_, σ', rfl, e⟩
end Mine

open PySem PySem.W PyProof.Rows
namespace Mine
open_top hd for PySem.Challenge.rw_dm0152_06
end Mine

namespace Mine
open PySem PySem.SeqAt PyProof.Rows PySem.Calls PySem.W

noncomputable def d0 : DefRec := match PySem.W.defOf hd.view_39 "liberal_is_HDN" with | some (d, _) => d | none => ⟨"", ⟨[], [], none, [], [], none, []⟩, [], ⟨.function, [], false, false, []⟩, ⟨0, 0, 0, 0⟩⟩
theorem D0 : DefIs hd.view_39 "liberal_is_HDN" [] d0 S0 1 1 :=
  ⟨by kernel_rfl, by kernel_rfl, by kernel_rfl, fun pm code doc vals h => by
    obtain ⟨v0, rfl⟩ := len1 h
    kernel_rfl⟩
noncomputable def d1 : DefRec := match PySem.W.defOf hd.view_39 "user_domain_match" with | some (d, _) => d | none => ⟨"", ⟨[], [], none, [], [], none, []⟩, [], ⟨.function, [], false, false, []⟩, ⟨0, 0, 0, 0⟩⟩
theorem D1 : DefIs hd.view_39 "user_domain_match" ["liberal_is_HDN"] d1 S1 3 2 :=
  ⟨by kernel_rfl, by kernel_rfl, by kernel_rfl, fun pm code doc vals h => by
    obtain ⟨v0, v1, rfl⟩ := len2 h
    kernel_rfl⟩
noncomputable def d2 : DefRec := match PySem.W.defOf hd.view_39 "_law_texts" with | some (d, _) => d | none => ⟨"", ⟨[], [], none, [], [], none, []⟩, [], ⟨.function, [], false, false, []⟩, ⟨0, 0, 0, 0⟩⟩
theorem D2 : DefIs hd.view_39 "_law_texts" ["liberal_is_HDN", "user_domain_match"] d2 (S2 40) 4 1 :=
  ⟨by kernel_rfl, by kernel_rfl, by kernel_rfl, fun pm code doc vals h => by
    obtain ⟨v0, rfl⟩ := len1 h
    kernel_rfl⟩
noncomputable def d3 : DefRec := match PySem.W.defOf hd.view_39 "_law_is_number" with | some (d, _) => d | none => ⟨"", ⟨[], [], none, [], [], none, []⟩, [], ⟨.function, [], false, false, []⟩, ⟨0, 0, 0, 0⟩⟩
theorem D3 : DefIs hd.view_39 "_law_is_number" ["liberal_is_HDN", "user_domain_match", "_law_texts"] d3 Snum 3 1 :=
  ⟨by kernel_rfl, by kernel_rfl, by kernel_rfl, fun pm code doc vals h => by
    obtain ⟨v0, rfl⟩ := len1 h
    kernel_rfl⟩
noncomputable def dL : DefRec := match PySem.W.defOf hd.view_39 "law" with | some (d, _) => d | none => ⟨"", ⟨[], [], none, [], [], none, []⟩, [], ⟨.function, [], false, false, []⟩, ⟨0, 0, 0, 0⟩⟩
noncomputable def spr : SpR := match (dL.body[2]? : Option Stmt) with
  | some (.Assign [.Name y py] (.Call (.Name _ np) [e] [⟨_, .Lambda ⟨_, [⟨p, _, ap⟩], _, _, _, _, _⟩ lb lsc lpos, kp⟩] pos) q) => ⟨y, py, e, p, ap, lb, lsc, lpos, kp, np, pos, q, none⟩
  | _ => ⟨"", ⟨0, 0, 0, 0⟩, .Name "" ⟨0, 0, 0, 0⟩, "", ⟨0, 0, 0, 0⟩, .Name "" ⟨0, 0, 0, 0⟩, ⟨.function, [], false, false, []⟩, ⟨0, 0, 0, 0⟩, ⟨0, 0, 0, 0⟩, ⟨0, 0, 0, 0⟩, ⟨0, 0, 0, 0⟩, ⟨0, 0, 0, 0⟩, none⟩
theorem SOK : SpOk (headCx ["liberal_is_HDN", "user_domain_match", "_law_texts", "_law_is_number"] dL.scope) (headMu ["liberal_is_HDN", "user_domain_match", "_law_texts", "_law_is_number"] dL.body dL.scope) spr 2 key6 none :=
  ⟨by kernel_rfl, by kernel_rfl, by kernel_rfl, by kernel_rfl, by kernel_rfl, by kernel_rfl, by kernel_rfl, fun _ _ _ _ _ _ => by kernel_rfl, by rw [show spr.lp = none from by kernel_rfl]; trivial⟩
theorem DL : LawIs hd.view_39 "law" ["liberal_is_HDN", "user_domain_match", "_law_texts", "_law_is_number"] dL spr 2 Sa6 Sb6 key6 2 none 9 :=
  ⟨by kernel_rfl, by kernel_rfl, by kernel_rfl, by kernel_rfl, by kernel_rfl, by kernel_rfl, by kernel_rfl, by kernel_rfl, SOK, fun _ _ _ _ => by kernel_rfl⟩

theorem AR : cE 50 (headCx ["liberal_is_HDN", "user_domain_match", "_law_texts", "_law_is_number"] dL.scope) spr.e = some (.var 1) := by kernel_rfl
theorem walk (law_holds : ∀ is : List Int, is.length ≤ 63 → LawPure [f0, f1, t6, n6] ipv4 2000 Sa6 Sb6 (.var 1) key6 2 none (.frz (.list (is.map .int)) :: List.replicate (9 - 1) .unset)) : PySem.Challenge.rw_dm0152_06.Holds := by
  refine hd (jointN (most := 63) rfl (by decide) rfl fun w s₀ s₁ mg mb G Y => ?_)
  have K := km_in_of Y
  have hg : ∀ x, mg x = _ := ns_val G.T.g (K mainGlobals _ rfl) rfl
  have hT := km_tabs_of Y 64 (by decide)
  have C : CodeHd s₁.heap 66 64 := codeHd_of_K K (by kernel_rfl)
  have hP : Pat (hideAll s₁.heap [64]) 36 := ⟨_, _, _, _, _, _, _, gh_ne (K 36 _ rfl) (by decide), gh_ne (K 35 _ rfl) (by decide), rfl⟩
  have hm : mg "IPV4_RE" = some (.ref 36) := (hg _).trans rfl
  have T0 : Tied PySem.Challenge.rw_dm0152_06.prog w mg mb (hideAll s₁.heap [64]) 0 [] [] := base_gh G hT fun x hx => by
    simp only [bnames, List.mem_cons, List.not_mem_nil, or_false] at hx
    rcases hx with rfl | rfl | rfl | rfl | rfl <;> exact (hg _).trans rfl
  have C0 := fn_gh (W := 2000) G hT T0 hm hP D0
  have T1 := tied_add T0 rfl C0
  have C1 := fn_gh (W := 2000) G hT T1 hm hP D1
  have T2 := tied_add T1 rfl C1
  have C2 := fn_gh (W := 2000) G hT T2 hm hP D2
  have T3 := tied_add T2 rfl C2
  have C3 := fn_gh (W := 2000) G hT T3 hm hP D3
  have T4 := tied_add T3 rfl C3
  refine ⟨_, _, C, hT, fun a ha is v fp hlen rd => ?_⟩
  exact law_of (W := 2000) (by decide) G C hT T4 hm hP DL (fun a o fd h1 h2 h3 => law_code (x := "law") (c := 66) (P := 64) K G.T.g (by kernel_rfl) h1 h2 h3) ha rd ((law_holds is hlen).run fun τ ds h1 h2 => arg_ok T4 AR h1 h2)
end Mine
theorem PySem.Challenge.cw_dm0152_06_holds : PySem.Challenge.rw_dm0152_06.Holds :=
  Mine.walk fun is _ => Mine.law6 is
