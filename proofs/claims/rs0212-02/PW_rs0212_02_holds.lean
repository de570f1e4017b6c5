import PyProof.Rows.All
import PyProof.Rows.StrFit
import OpenK.AllK
import Wide.All
import Lean
import PySem.Challenge.RW_rs0212_02
set_option Elab.async false
set_option bootstrap.genMatcherCode false
set_option genSizeOf false
set_option genCtorIdx false
set_option linter.all false
set_option maxRecDepth 1000000
set_option maxHeartbeats 4000000
section
set_option tactic.hygienic false
open PySem
namespace Rs.Internal
set_option genCtorIdx false
inductive PV where
 | none | bool (b : Bool) | int (i : Int) | str (s : List Nat) | tup (l : List PV) | lst (l : List PV) | rng (lo hi st : Int)
mutual
inductive Bf where | len | chr | ord | min2 | max2 | min1 | sum1 | isInt | isBool | listOf | range1 | range2 | range3
inductive Mf where | lower | split | startswith | endswith | find4 | count | join
end
set_option genInjectivity false
mutual
inductive X where
 | const (p : PV)
 | var (i : Nat)
 | glob (i : Nat)
 | bin (op : Operator) (a b : X)
 | neg (a : X)
 | notX (a : X)
 | andX (a b : X)
 | orX (a b : X)
 | cmp (op : CmpOp) (a b : X)
 | chain (op1 op2 : CmpOp) (a b c : X)
 | ite (c a b : X)
 | idx (a b : X)
 | idxO (i : Nat) (b : X)
 | lenO (i : Nat)
 | slc (a lo hi : X)
 | list (l : Xs)
 | tup (l : Xs)
 | call (f : Nat) (l : Xs)
 | bf (f : Bf) (l : Xs)
 | mf (f : Mf) (a : X) (l : Xs)
 | repl (a : X) (old new : List Nat)
 | inB1 (a : X)
 | getB3 (a : X)
 | comp (caps : List Nat) (own : Nat) (tg : List Nat) (one : Bool) (it : It) (ifs : Xs) (gs : Gs)
inductive Xs where
 | nil
 | cons (a : X) (r : Xs)
inductive It where
 | val (a : X)
 | own (i : Nat)
 | zip (a b : X)
inductive Gs where
 | fin (elt : X)
 | cons (tg : List Nat) (one : Bool) (it : It) (ifs : Xs) (r : Gs)
end
mutual
inductive S where
 | asg (fr : List Nat) (i : Nat) (e : X)
 | asg2 (fr : List Nat) (i j : Nat) (e : X)
 | asgO (fr : List Nat) (i : Nat) (e : X)
 | asgT (fr : List Nat) (is : List Nat) (e : X)
 | asgP (fr : List Nat) (ts : List (Nat × Bool)) (es : Xs)
 | aug (fr : List Nat) (i : Nat) (op : Operator) (e : X)
 | setI (fr : List Nat) (i : Nat) (k e : X)
 | delI (i : Nat) (last : Bool)
 | app (fr : List Nat) (i : Nat) (e : X)
 | ifS (fr : List Nat) (c : X) (t e : Ss)
 | whl (c : X) (b : Ss)
 | forS (fr : List Nat) (tg : List Nat) (one : Bool) (it : It) (b : Ss)
 | ret (fr : List Nat) (e : X)
 | asrt (c : X)
inductive Ss where
 | nil
 | cons (s : S) (r : Ss)
end
set_option genInjectivity true
inductive Slot where
 | no | val (p : PV) | own (l : List PV)
noncomputable abbrev Store := List Slot
structure Gl where
 const : List PV
 b1 : Int → Bool
 b3 : Int → Option (List Nat)
noncomputable abbrev LIM : Nat := 1048576
noncomputable def small (i : Int) : Bool := decide (-1073741824 < i) && decide (i < 1073741824)
noncomputable def fitL (n : Nat) : Bool := Nat.ble n LIM
theorem nope {α : Type} {a : α} {P : Prop} (h : (none : Option α) = some a) : P := by cases h
theorem cps {G : Prop} (h : ∀ P : Prop, (G → P) → P) : G := h G id
theorem oi {α : Type} {a b : α} (h : some a = some b) : a = b := Option.some.inj h
theorem pin {α β : Type} {a c : α} {b d : β} (h : some (a, b) = some (c, d)) : a = c ∧ b = d := by
 obtain ⟨h1, h2⟩ := Prod.mk.inj (Option.some.inj h)
 exact ⟨h1, h2⟩
theorem bnd {α β : Type} {o : Option α} {f : α → Option β} {b : β} (h : o.bind f = some b) : ∃ a, o = some a ∧ f a = some b := by
 cases o with
 | none => cases h
 | some a => exact ⟨a, rfl, h⟩
theorem mpd {α β : Type} {o : Option α} {f : α → β} {b : β} (h : o.map f = some b) : ∃ a, o = some a ∧ f a = b := by
 cases o with
 | none => cases h
 | some a => exact ⟨a, rfl, Option.some.inj h⟩
theorem obnd {α β : Type} {o : Option α} {f : α → Option β} {x : α} {r : Option β} (h : o = some x) (h' : f x = r) : o.bind f = r := by rw [h]; exact h'
theorem omap {α β : Type} {o : Option α} {f : α → β} {x : α} (h : o = some x) : o.map f = some (f x) := by rw [h]; rfl
theorem its {α : Type} {c : Bool} {a : Option α} {b : α} (h : (if c = true then a else none) = some b) : c = true ∧ a = some b := by
 cases c with
 | true => exact ⟨rfl, h⟩
 | false => cases h
theorem itn {α : Type} {c : Bool} {a : Option α} {b : α} (h : (if c = true then none else a) = some b) : c = false ∧ a = some b := by
 cases c with
 | false => exact ⟨rfl, h⟩
 | true => cases h
theorem ito {α : Type} {c : Bool} {a a' : Option α} {b : Option α} (h : (if c = true then a else a') = b) : (c = true ∧ a = b) ∨ (c = false ∧ a' = b) := by
 cases c with
 | true => exact .inl ⟨rfl, h⟩
 | false => exact .inr ⟨rfl, h⟩
theorem itp {α : Type} {c : Prop} [Decidable c] {a : Option α} {b : α} (h : (if c then a else none) = some b) : c ∧ a = some b := by
 by_cases hc : c
 ·rw [if_pos hc] at h; exact ⟨hc, h⟩
 ·rw [if_neg hc] at h; cases h
noncomputable def PV.int? : PV → Option Int
 | .int i => some i
 | z1 => Option.none
noncomputable def PV.str? : PV → Option (List Nat)
 | .str i => some i
 | z1 => Option.none
noncomputable def PV.lst? : PV → Option (List PV)
 | .lst i => some i
 | z1 => Option.none
noncomputable def PV.tup? : PV → Option (List PV)
 | .tup i => some i
 | z1 => Option.none
noncomputable def PV.bool? : PV → Option Bool
 | .bool i => some i
 | z1 => Option.none
noncomputable def PV.isNone : PV → Bool
 | .none => true
 | z1 => false
theorem PV.int_of {x : PV} {i : Int} (h : x.int? = some i) : x = .int i := by cases x <;> first | exact nope h | (cases h; rfl)
theorem PV.str_of {x : PV} {i : List Nat} (h : x.str? = some i) : x = .str i := by cases x <;> first | exact nope h | (cases h; rfl)
theorem PV.lst_of {x : PV} {i : List PV} (h : x.lst? = some i) : x = .lst i := by cases x <;> first | exact nope h | (cases h; rfl)
theorem PV.tup_of {x : PV} {i : List PV} (h : x.tup? = some i) : x = .tup i := by cases x <;> first | exact nope h | (cases h; rfl)
theorem PV.bool_of {x : PV} {i : Bool} (h : x.bool? = some i) : x = .bool i := by cases x <;> first | exact nope h | (cases h; rfl)
theorem PV.none_of {x : PV} (h : x.isNone = true) : x = .none := by cases x <;> first | rfl | cases h
theorem PV.none_not {x : PV} (h : x.isNone = false) : x ≠ .none := fun e => by rw [e] at h; cases h
noncomputable def one? : List PV → Option PV
 | [] => none
 | x :: r => if r.isEmpty then some x else none
theorem one_of {l : List PV} {x : PV} (h : one? l = some x) : l = [x] := by
 cases l with
 | nil => cases h
 | cons y r => cases r with
  | nil => cases h; rfl
  | cons z1 z2 => cases h
noncomputable def two? : List PV → Option (PV × PV)
 | [] => none
 | x :: r => (one? r).map fun y => (x, y)
theorem two_of {l : List PV} {x y : PV} (h : two? l = some (x, y)) : l = [x, y] := by
 cases l with
 | nil => cases h
 | cons z r =>
  obtain ⟨a, ha, h⟩ := mpd h
  cases h; rw [one_of ha]
noncomputable def three? : List PV → Option (PV × PV × PV)
 | [] => none
 | x :: r => (two? r).map fun y => (x, y)
theorem three_of {l : List PV} {x y z : PV} (h : three? l = some (x, y, z)) : l = [x, y, z] := by
 cases l with
 | nil => cases h
 | cons z r =>
  obtain ⟨⟨a, b⟩, ha, h⟩ := mpd h
  cases h; rw [two_of ha]
noncomputable def PV.eq0 (x y : PV) : Option Bool := match x with
 | .none => if y.isNone then some true else Option.none
 | .bool a => y.bool?.map fun b => a == b
 | .int a => y.int?.map fun b => a == b
 | .str a => y.str?.map fun b => a == b
 | z1 => Option.none
noncomputable def eqL : List PV → List PV → Option Bool
 | [], [] => some true
 | x :: xs, y :: ys => do
  let a ← PV.eq0 x y
  let b ← eqL xs ys
  some (a && b)
 | z1, z2 => Option.none
noncomputable def PV.eqb (x y : PV) : Option Bool := match x with
 | .tup a => y.tup?.bind fun b => eqL a b
 | .lst z1 => Option.none
 | z1 => PV.eq0 x y
noncomputable def PV.truth : PV → Option Bool
 | .none => some false
 | .bool b => some b
 | .int i => some (i != 0)
 | .str s => if Nat.ble s.length 1048576 then some (!s.isEmpty) else Option.none
 | .lst l => if Nat.ble l.length 1048576 then some (!l.isEmpty) else Option.none
 | .tup z1 => Option.none
 | .rng .. => Option.none
noncomputable def strs? : List PV → Option (List (List Nat))
 | [] => some []
 | x :: r => x.str?.bind fun i => (strs? r).map (i :: ·)
noncomputable def ints? : List PV → Option (List Int)
 | [] => some []
 | x :: r => x.int?.bind fun i => (ints? r).map (i :: ·)
noncomputable def mulStr (s : List Nat) (n : Nat) : List Nat := (List.replicate n s).flatten
noncomputable def intP (f : Int → Int → Option PV) (x y : PV) : Option PV := x.int?.bind fun a => y.int?.bind fun b => f a b
noncomputable def addP (x y : PV) : Option PV := match x with
 | .int a => y.int?.map fun b => .int (a + b)
 | .str a => y.str?.bind fun b => if fitL (a.length + b.length) then some (.str (a ++ b)) else none
 | .lst a => y.lst?.bind fun b => if fitL (a.length + b.length) then some (.lst (a ++ b)) else none
 | z1 => none
noncomputable def mulP (x y : PV) : Option PV := match x with
 | .int a => y.int?.bind fun b => if small a && small b then some (.int (a * b)) else none
 | .str a => y.int?.bind fun b => if decide (0 ≤ b) && fitL (a.length * b.toNat) && fitL b.toNat then some (.str (mulStr a b.toNat)) else none
 | z1 => none
noncomputable def binP (op : Operator) (x y : PV) : Option PV := match op with
 | .Add => addP x y
 | .Sub => intP (fun a b => some (.int (a - b))) x y
 | .Mult => mulP x y
 | .FloorDiv => intP (fun a b => if decide (b ≠ 0) && small b then some (.int (a.fdiv b)) else none) x y
 | .Mod => intP (fun a b => if decide (b ≠ 0) then some (.int (a.fmod b)) else none) x y
 | .Pow => intP (fun a b => if decide (a = 2) && decide (0 ≤ b) && decide (b ≤ 64) then some (.int (2 ^ b.toNat)) else none) x y
 | z1 => none
theorem bAI (a b : Int) : binP .Add (.int a) (.int b) = some (.int (a + b)) := (rfl)
theorem bAS (a b : List Nat) : binP .Add (.str a) (.str b) = if fitL (a.length + b.length) then some (.str (a ++ b)) else none := (rfl)
theorem bAL (a b : List PV) : binP .Add (.lst a) (.lst b) = if fitL (a.length + b.length) then some (.lst (a ++ b)) else none := (rfl)
theorem bMI (a b : Int) : binP .Mult (.int a) (.int b) = if small a && small b then some (.int (a * b)) else none := (rfl)
theorem bMS (a : List Nat) (b : Int) : binP .Mult (.str a) (.int b) = if decide (0 ≤ b) && fitL (a.length * b.toNat) && fitL b.toNat then some (.str (mulStr a b.toNat)) else none := (rfl)
theorem bSub (a b : Int) : binP .Sub (.int a) (.int b) = some (.int (a - b)) := (rfl)
theorem bMod (a b : Int) : binP .Mod (.int a) (.int b) = if decide (b ≠ 0) then some (.int (a.fmod b)) else none := (rfl)
theorem bFD (a b : Int) : binP .FloorDiv (.int a) (.int b) = if decide (b ≠ 0) && small b then some (.int (a.fdiv b)) else none := (rfl)
noncomputable def ltS : List Nat → List Nat → Bool
 | z1, [] => false
 | [], z1 :: z2 => true
 | x :: xs, y :: ys => decide (x < y) || (x == y && ltS xs ys)
noncomputable def leS (a b : List Nat) : Bool := !ltS b a
noncomputable def subIn (w : List Nat) : List Nat → Bool
 | [] => w.isEmpty
 | x :: r => List.isPrefixOf w (x :: r) || subIn w r
noncomputable def cInt (f : Int → Int → Bool) (x y : PV) : Option Bool := x.int?.bind fun a => y.int?.map fun b => f a b
noncomputable def cStr (f : List Nat → List Nat → Bool) (x y : PV) : Option Bool := x.str?.bind fun a => y.str?.map fun b => f a b
noncomputable def inP (x y : PV) : Option Bool := match y with
 | .str b => x.str?.map fun a => subIn a b
 | z1 => none
noncomputable def isSame (x y : PV) : Option Bool := if x.isNone || y.isNone then some (x.isNone && y.isNone) else x.bool?.bind fun a => y.bool?.map fun b => a == b
noncomputable def cmpP (op : CmpOp) (x y : PV) : Option Bool := match op with
 | .Eq => PV.eqb x y
 | .NotEq => (PV.eqb x y).map (!·)
 | .Lt => if x.int?.isSome then cInt (fun a b => decide (a < b)) x y else cStr ltS x y
 | .LtE => if x.int?.isSome then cInt (fun a b => decide (a ≤ b)) x y else cStr leS x y
 | .Gt => cInt (fun a b => decide (a > b)) x y
 | .GtE => cInt (fun a b => decide (a ≥ b)) x y
 | .Is => isSame x y
 | .IsNot => (isSame x y).map (!·)
 | .In => inP x y
 | .NotIn => (inP x y).map (!·)
theorem cGe (a b : Int) : cmpP .GtE (.int a) (.int b) = some (decide (a ≥ b)) := (rfl)
theorem cNin (a b : List Nat) : cmpP .NotIn (.str a) (.str b) = some (!subIn a b) := (rfl)
noncomputable def place (n : Nat) (i : Int) : Option Nat :=
 if 0 ≤ i then (if i < n then some i.toNat else Option.none) else (if -(n : Int) ≤ i then some (i + n).toNat else Option.none)
noncomputable def idxP (x y : PV) : Option PV := y.int?.bind fun i => match x with
 | .str s => if small i then ((place s.length i).bind (s[·]?)).map fun c => .str [c] else none
 | .lst l => if small i then (place l.length i).bind (l[·]?) else none
 | .tup l => if small i then (place l.length i).bind (l[·]?) else none
 | z1 => none
noncomputable def clip (n : Nat) (i : Int) : Nat := if i < 0 then (i + n).toNat else min i.toNat n
noncomputable def loC (n : Nat) : Option Int → Nat
 | none => 0
 | some i => clip n i
noncomputable def hiC (n : Nat) : Option Int → Nat
 | none => n
 | some i => clip n i
noncomputable def cutL {α : Type} (l : List α) (lo hi : Option Int) : List α := (l.take (hiC l.length hi)).drop (loC l.length lo)
noncomputable def end? : PV → Option (Option Int)
 | .none => some none
 | .int i => if small i then some (some i) else none
 | z1 => none
theorem end_int {i : Int} (h : small i = true) : end? (.int i) = some (some i) := if_pos h
noncomputable def cutP (v : PV) (a b : Option Int) : Option PV := match v with
 | .str s => if fitL s.length then some (.str (cutL s a b)) else none
 | .lst l => if fitL l.length then some (.lst (cutL l a b)) else none
 | z1 => none
noncomputable def slcP (v lo hi : PV) : Option PV := (end? lo).bind fun a => (end? hi).bind fun b => cutP v a b
noncomputable def rcount (lo hi st : Int) : Nat := if st = 1 then (hi - lo).toNat else if lo < hi then ((hi - lo - 1) / st + 1).toNat else 0
noncomputable def rangeL (lo hi st : Int) : List PV := (List.range (rcount lo hi st)).map fun (k : Nat) => PV.int (lo + st * k)
noncomputable def chr1 : List Nat → Option Nat
 | [] => none
 | c :: r => if r.isEmpty then some c else none
theorem chr1_of {l : List Nat} {c : Nat} (h : chr1 l = some c) : l = [c] := by
 cases l with
 | nil => cases h
 | cons y r => cases r with
  | nil => cases h; rfl
  | cons z1 z2 => cases h
noncomputable def lenP (l : List PV) : Option PV := (one? l).bind fun x => match x with
 | .str s => if fitL s.length then some (.int s.length) else none
 | .lst l => if fitL l.length then some (.int l.length) else none
 | z1 => none
noncomputable def chrP (l : List PV) : Option PV := (one? l).bind fun x => x.int?.bind fun i => if decide (0 ≤ i) && decide (i < 1114112) then some (.str [i.toNat]) else none
noncomputable def ordP (l : List PV) : Option PV := (one? l).bind fun x => x.str?.bind fun s => (chr1 s).map fun (c : Nat) => PV.int (c : Int)
noncomputable def min2P (l : List PV) : Option PV := (two? l).bind fun q => match q.1 with
 | .int a => q.2.int?.map fun b => .int (if b < a then b else a)
 | z1 => none
noncomputable def sum1P (l : List PV) : Option PV := (one? l).bind fun x => x.lst?.bind fun l => (ints? l).bind fun is => if fitL l.length then some (.int is.sum) else none
noncomputable def listOfP (l : List PV) : Option PV := (one? l).bind fun x => match x with
 | .rng lo hi st => if small lo && small hi && small st && decide (0 < st) && fitL (rcount lo hi st) then some (.lst (rangeL lo hi st)) else none
 | z1 => none
noncomputable def range1P (l : List PV) : Option PV := (one? l).bind fun x => x.int?.bind fun hi => if small hi then some (.rng 0 hi 1) else none
noncomputable def range2P (l : List PV) : Option PV := (two? l).bind fun q => q.1.int?.bind fun lo => q.2.int?.bind fun hi => if small lo && small hi then some (.rng lo hi 1) else none
noncomputable def range3P (l : List PV) : Option PV := (three? l).bind fun q => q.1.int?.bind fun lo => q.2.1.int?.bind fun hi => q.2.2.int?.bind fun st => if small lo && small hi && small st && decide (0 < st) then some (.rng lo hi st) else none
noncomputable def bfP : Bf → List PV → Option PV
 | .len, l => lenP l
 | .chr, l => chrP l
 | .ord, l => ordP l
 | .min2, l => min2P l
 | .max2, z1 => none
 | .min1, z1 => none
 | .sum1, l => sum1P l
 | .isInt, _ | .isBool, z1 => none
 | .listOf, l => listOfP l
 | .range1, l => range1P l
 | .range2, l => range2P l
 | .range3, l => range3P l
theorem idxS (s : List Nat) (i : Int) : idxP (.str s) (.int i) = if small i then ((place s.length i).bind (s[·]?)).map fun c => .str [c] else none := (rfl)
theorem idxL (l : List PV) (i : Int) : idxP (.lst l) (.int i) = if small i then (place l.length i).bind (l[·]?) else none := (rfl)
theorem lenS (s : List Nat) : lenP [.str s] = if fitL s.length then some (.int s.length) else none := (rfl)
theorem lenL (s : List PV) : lenP [.lst s] = if fitL s.length then some (.int s.length) else none := (rfl)
theorem chrE (i : Int) : chrP [.int i] = if decide (0 ≤ i) && decide (i < 1114112) then some (.str [i.toNat]) else none := (rfl)
theorem min2I (a b : Int) : min2P [.int a, .int b] = some (.int (if b < a then b else a)) := (rfl)
theorem sum1E (l : List PV) : sum1P [.lst l] = (ints? l).bind fun is => if fitL l.length then some (.int is.sum) else none := (rfl)
theorem listOfE (lo hi st : Int) : listOfP [.rng lo hi st] = if small lo && small hi && small st && decide (0 < st) && fitL (rcount lo hi st) then some (.lst (rangeL lo hi st)) else none := (rfl)
theorem range1E (hi : Int) : range1P [.int hi] = if small hi then some (.rng 0 hi 1) else none := (rfl)
theorem range2E (lo hi : Int) : range2P [.int lo, .int hi] = if small lo && small hi then some (.rng lo hi 1) else none := (rfl)
theorem range3E (lo hi st : Int) : range3P [.int lo, .int hi, .int st] = if small lo && small hi && small st && decide (0 < st) then some (.rng lo hi st) else none := (rfl)
theorem bfLen (l : List PV) : bfP .len l = lenP l := (rfl)
theorem bfChr (l : List PV) : bfP .chr l = chrP l := (rfl)
theorem bfMin2 (l : List PV) : bfP .min2 l = min2P l := (rfl)
theorem bfSum1 (l : List PV) : bfP .sum1 l = sum1P l := (rfl)
theorem bfListOf (l : List PV) : bfP .listOf l = listOfP l := (rfl)
theorem bfR1 (l : List PV) : bfP .range1 l = range1P l := (rfl)
theorem bfR3 (l : List PV) : bfP .range3 l = range3P l := (rfl)
noncomputable def splitGo (sep : List Nat) : Nat → List Nat → List Nat → List (List Nat)
 | 0, cur, s => [cur.reverse ++ s]
 | z1 + 1, cur, [] => [cur.reverse]
 | n + 1, cur, x :: r => if List.isPrefixOf sep (x :: r) then cur.reverse :: splitGo sep n [] ((x :: r).drop sep.length) else splitGo sep n (x :: cur) r
theorem slcP_str {s : List Nat} {x y : PV} {a b : Option Int} (h1 : end? x = some a) (h2 : end? y = some b) (hf : fitL s.length = true) : slcP (.str s) x y = some (.str (cutL s a b)) := obnd h1 (obnd h2 (if_pos hf))
theorem splitGo_t {sep cur : List Nat} {n x : Nat} {r : List Nat} (h : List.isPrefixOf sep (x :: r) = true) : splitGo sep (n + 1) cur (x :: r) = cur.reverse :: splitGo sep n [] ((x :: r).drop sep.length) := if_pos h
theorem splitGo_f {sep cur : List Nat} {n x : Nat} {r : List Nat} (h : ¬ List.isPrefixOf sep (x :: r) = true) : splitGo sep (n + 1) cur (x :: r) = splitGo sep n (x :: cur) r := if_neg h
noncomputable def splitL (s sep : List Nat) : List (List Nat) := splitGo sep (s.length + 1) [] s
noncomputable def findGo (w : List Nat) : Nat → Nat → List Nat → Option Nat
 | 0, z1, z2 => none
 | n + 1, i, s => if List.isPrefixOf w s then some i else match s with
   | [] => none
   | z1 :: r => findGo w n (i + 1) r
theorem findGo_t {w s : List Nat} {n i : Nat} (h : List.isPrefixOf w s = true) : findGo w (n + 1) i s = some i := if_pos h
theorem findGo_n {w : List Nat} {n i : Nat} (h : ¬ List.isPrefixOf w [] = true) : findGo w (n + 1) i [] = none := if_neg h
theorem findGo_c {w r : List Nat} {n i x : Nat} (h : ¬ List.isPrefixOf w (x :: r) = true) : findGo w (n + 1) i (x :: r) = findGo w n (i + 1) r := if_neg h
noncomputable def findL (s w : List Nat) (i j : Nat) : Int := match findGo w (s.length + 1) i ((s.take j).drop i) with
 | some k => k
 | none => -1
noncomputable def countStr (s w : List Nat) : Nat := (splitL s w).length - 1
noncomputable def replL (s old new : List Nat) : List Nat := (new).intercalate (splitL s old)
noncomputable def lowerL (s : List Nat) : List Nat := (Txt.lower ⟨s.toArray⟩).cps.toList
noncomputable def lowerP (x : PV) (l : List PV) : Option PV := x.str?.bind fun s => if l.isEmpty && fitL (lowerL s).length then some (.str (lowerL s)) else none
noncomputable def splitP (x : PV) (l : List PV) : Option PV := x.str?.bind fun s => (one? l).bind fun y => y.str?.bind fun p => if fitL s.length && !p.isEmpty then some (.lst ((splitL s p).map .str)) else none
noncomputable def startsP (x : PV) (l : List PV) : Option PV := x.str?.bind fun s => (one? l).bind fun y => y.str?.map fun p => .bool (List.isPrefixOf p s)
noncomputable def endsP (x : PV) (l : List PV) : Option PV := x.str?.bind fun s => (one? l).bind fun y => y.str?.map fun p => .bool (List.isSuffixOf p s)
noncomputable def find4P (x : PV) (l : List PV) : Option PV := x.str?.bind fun s => (three? l).bind fun q => q.1.str?.bind fun p => q.2.1.int?.bind fun i => q.2.2.int?.bind fun j =>
 if decide (0 ≤ i) && decide (i ≤ j) && decide (j ≤ s.length) && fitL s.length then some (.int (findL s p i.toNat j.toNat)) else none
noncomputable def countP' (x : PV) (l : List PV) : Option PV := (one? l).bind fun y => match x with
 | .str s => y.str?.bind fun p => if fitL s.length && !p.isEmpty then some (.int (countStr s p)) else none
 | z1 => none
noncomputable def joinP (x : PV) (l : List PV) : Option PV := x.str?.bind fun s => (one? l).bind fun y => y.lst?.bind fun l => (strs? l).bind fun ss => if s.isEmpty && fitL ss.flatten.length && fitL l.length then some (.str ss.flatten) else none
theorem lowerE (s : List Nat) : lowerP (.str s) [] = if fitL (lowerL s).length then some (.str (lowerL s)) else none := (rfl)
theorem splitE (s p : List Nat) : splitP (.str s) [.str p] = if fitL s.length && !p.isEmpty then some (.lst ((splitL s p).map .str)) else none := (rfl)
theorem find4E (s p : List Nat) (i j : Int) : find4P (.str s) [.str p, .int i, .int j] = if decide (0 ≤ i) && decide (i ≤ j) && decide (j ≤ s.length) && fitL s.length then some (.int (findL s p i.toNat j.toNat)) else none := (rfl)
theorem countE (s p : List Nat) : countP' (.str s) [.str p] = if fitL s.length && !p.isEmpty then some (.int (countStr s p)) else none := (rfl)
theorem joinE (s : List Nat) (l : List PV) : joinP (.str s) [.lst l] = (strs? l).bind fun ss => if s.isEmpty && fitL ss.flatten.length && fitL l.length then some (.str ss.flatten) else none := (rfl)
noncomputable def mfP : Mf → PV → List PV → Option PV
 | .lower, s, l => lowerP s l
 | .split, s, l => splitP s l
 | .startswith, s, l => startsP s l
 | .endswith, s, l => endsP s l
 | .find4, s, l => find4P s l
 | .count, s, l => countP' s l
 | .join, s, l => joinP s l
theorem mfLower (x : PV) (l : List PV) : mfP .lower x l = lowerP x l := (rfl)
theorem mfSplit (x : PV) (l : List PV) : mfP .split x l = splitP x l := (rfl)
theorem mfCount (x : PV) (l : List PV) : mfP .count x l = countP' x l := (rfl)
theorem mfJoin (x : PV) (l : List PV) : mfP .join x l = joinP x l := (rfl)
noncomputable def itemsP : PV → Option (List PV)
 | .lst l => some l
 | .tup l => some l
 | .str s => some (s.map fun c => .str [c])
 | .rng lo hi st => if small lo && small hi && small st && decide (0 < st) then some (rangeL lo hi st) else none
 | z1 => none
noncomputable def getS (σ : Store) (i : Nat) : Slot := (σ[i]?).getD .no
noncomputable def setS (σ : Store) (i : Nat) (p : PV) : Store := σ.set i (.val p)
noncomputable def Slot.kd : Slot → Nat
 | .no => 0
 | .val z1 => 1
 | .own z1 => 2
theorem Slot.dif {a b : Slot} {P : Prop} (h : a = b) (n : Nat.beq a.kd b.kd = false) : P := by
 rw [h, Nat.beq_refl] at n; exact absurd n.symm Bool.false_ne_true
noncomputable def Slot.val? : Slot → Option PV
 | .val p => some p
 | z1 => none
theorem Slot.val_of {x : Slot} {p : PV} (h : x.val? = some p) : x = .val p := by cases x <;> first | exact nope h | (cases h; rfl)
noncomputable def Slot.own? : Slot → Option (List PV)
 | .own p => some p
 | z1 => none
theorem Slot.own_of {x : Slot} {p : List PV} (h : x.own? = some p) : x = .own p := by cases x <;> first | exact nope h | (cases h; rfl)
noncomputable def clr (is : List Nat) (σ : Store) : Store := is.foldl (fun σ i => σ.set i .no) σ
noncomputable def capS : Slot → Slot
 | .val p => .val p
 | z1 => .no
noncomputable def bindTg (one : Bool) (tg : List Nat) (v : PV) (σ : Store) : Option Store :=
 if one then (match tg with
  | [] => none
  | i :: r => if r.isEmpty then some (setS σ i v) else none)
 else v.tup?.bind fun vs => if tg.length = vs.length then some ((tg.zip vs).foldl (fun σ x => setS σ x.1 x.2) σ) else none
noncomputable def Gs.tgs : Gs → List Nat
 | .fin z1 => []
 | .cons tg z1 z2 z3 r => tg ++ r.tgs
noncomputable def compLoop (f : PV → Option (List PV)) : List PV → Option (List PV)
 | [] => some []
 | v :: r => do
  let a ← f v
  let b ← compLoop f r
  some (a ++ b)
section
variable (G : Gl) (φ : Nat → List PV → Option PV)
mutual
noncomputable def evX : X → Store → Option PV
 | .const p, z1 => some p
 | .var i, σ => (getS σ i).val?
 | .glob i, z1 => G.const[i]?
 | .bin op a b, σ => do
  let x ← evX a σ
  let y ← evX b σ
  binP op x y
 | .neg a, σ => (evX a σ).bind fun x => x.int?.map fun i => .int (-i)
 | .notX a, σ => do
  let x ← evX a σ
  let t ← x.truth
  some (.bool (!t))
 | .andX a b, σ => do
  let x ← evX a σ
  let t ← x.truth
  if t then evX b σ else some x
 | .orX a b, σ => do
  let x ← evX a σ
  let t ← x.truth
  if t then some x else evX b σ
 | .cmp op a b, σ => do
  let x ← evX a σ
  let y ← evX b σ
  (cmpP op x y).map .bool
 | .chain o1 o2 a b c, σ => do
  let x ← evX a σ
  let y ← evX b σ
  let t ← cmpP o1 x y
  if t then do
   let z ← evX c σ
   (cmpP o2 y z).map .bool
  else some (.bool false)
 | .ite c a b, σ => do
  let x ← evX c σ
  let t ← x.truth
  if t then evX a σ else evX b σ
 | .idx a b, σ => do
  let x ← evX a σ
  let y ← evX b σ
  idxP x y
 | .idxO i b, σ => match getS σ i with
   | .own l => do
    let y ← evX b σ
    idxP (.lst l) y
   | .val p => do
    let y ← evX b σ
    idxP p y
   | .no => none
 | .lenO i, σ => match getS σ i with
   | .own l => bfP .len [.lst l]
   | .val p => bfP .len [p]
   | .no => none
 | .slc a lo hi, σ => do
  let x ← evX a σ
  let y ← evX lo σ
  let z ← evX hi σ
  slcP x y z
 | .list l, σ => (evXs l σ).bind fun vs => if fitL vs.length then some (.lst vs) else none
 | .tup l, σ => (evXs l σ).bind fun vs => if fitL vs.length then some (.tup vs) else none
 | .call f l, σ => (evXs l σ).bind (φ f)
 | .bf f l, σ => (evXs l σ).bind (bfP f)
 | .mf f a l, σ => do
  let x ← evX a σ
  let vs ← evXs l σ
  mfP f x vs
 | .repl a o n, σ => (evX a σ).bind fun x => x.str?.bind fun s => if fitL s.length && fitL ((s.length + 1) * n.length) && !o.isEmpty then some (.str (replL s o n)) else none
 | .inB1 a, σ => (evX a σ).bind fun x => x.int?.map fun i => .bool (G.b1 i)
 | .getB3 a, σ => (evX a σ).bind fun x => x.int?.map fun i => match G.b3 i with
   | some s => .str s
   | none => .none
 | .comp caps own tg one it ifs gs, σ => do
  let vs ← evIt it σ
  let σ' := caps.map (fun i => capS (getS σ i)) ++ List.replicate own .no
  let out ← compLoop (fun v => do
   let σ'' ← bindTg one tg v (clr (tg ++ gs.tgs) σ')
   let t ← evIfs ifs σ''
   if t then evGs gs σ'' else some []) vs
  if fitL out.length then some (.lst out) else none
noncomputable def evXs : Xs → Store → Option (List PV)
 | .nil, z1 => some []
 | .cons a r, σ => do
  let x ← evX a σ
  let xs ← evXs r σ
  some (x :: xs)
noncomputable def evIfs : Xs → Store → Option Bool
 | .nil, z1 => some true
 | .cons a r, σ => do
  let x ← evX a σ
  let t ← x.truth
  if t then evIfs r σ else some false
noncomputable def evIt : It → Store → Option (List PV)
 | .val a, σ => (evX a σ).bind fun p => (itemsP p).bind fun l => if fitL l.length then some l else none
 | .own i, σ => match getS σ i with
   | .own l => if fitL l.length then some l else none
   | .val p => (itemsP p).bind fun l => if fitL l.length then some l else none
   | .no => none
 | .zip a b, σ => do
  let x ← evX a σ
  let y ← evX b σ
  x.str?.bind fun s => y.str?.bind fun t => if fitL s.length && fitL t.length then some ((s.zip t).map fun (c : Nat × Nat) => PV.tup [.str [c.1], .str [c.2]]) else none
noncomputable def evGs : Gs → Store → Option (List PV)
 | .fin elt, σ => (evX elt σ).map fun p => [p]
 | .cons tg one it ifs r, σ => do
  let vs ← evIt it σ
  compLoop (fun v => do
   let σ'' ← bindTg one tg v (clr (tg ++ r.tgs) σ)
   let t ← evIfs ifs σ''
   if t then evGs r σ'' else some []) vs
end
end
end Rs.Internal
end
section
set_option tactic.hygienic false
set_option backward.match.sparseCases false
open PySem
namespace Rs.Internal
noncomputable def augP (op : Operator) (x y : PV) : Option PV := match op with
 | .Add => (match x with
  | .int a => y.int?.map fun b => .int (a + b)
  | .str a => y.str?.bind fun b => if fitL (a.length + b.length) then some (.str (a ++ b)) else none
  | z1 => none)
 | .Sub => intP (fun a b => some (.int (a - b))) x y
 | z1 => none
theorem aSub (a b : Int) : augP .Sub (.int a) (.int b) = some (.int (a - b)) := (rfl)
theorem aS (a b : List Nat) : augP .Add (.str a) (.str b) = if fitL (a.length + b.length) then some (.str (a ++ b)) else none := (rfl)
inductive Fl where
 | nx | rt (p : PV)
noncomputable def Fl.rt? : Fl → Option PV
 | .nx => none
 | .rt p => some p
noncomputable def frzS : Slot → Slot
 | .own l => .val (.lst l)
 | s => s
noncomputable def frz (fr : List Nat) (σ : Store) : Store := fr.foldl (fun σ i => σ.set i (frzS (getS σ i))) σ
noncomputable def forLoop (one : Bool) (tg : List Nat) (body : Store → Option (Fl × Store)) : List PV → Store → Option (Fl × Store)
 | [], σ => some (.nx, σ)
 | v :: r, σ => do
  let σ₁ ← bindTg one tg v σ
  let (f, σ₂) ← body σ₁
  match f with
  | .nx => forLoop one tg body r σ₂
  | .rt p => some (.rt p, σ₂)
noncomputable def whileLoop (c : Store → Option Bool) (body : Store → Option (Fl × Store)) : Nat → Store → Option (Fl × Store)
 | 0, z1 => none
 | n + 1, σ => do
  let t ← c σ
  if t then do
   let (f, σ₂) ← body σ
   match f with
   | .nx => whileLoop c body n σ₂
   | .rt p => some (.rt p, σ₂)
  else some (.nx, σ)
noncomputable def storeP (σ : Store) : List (Nat × Bool) → List PV → Option Store
 | [], vs => if vs.isEmpty then some σ else none
 | t :: r, vs => match vs with
  | [] => none
  | v :: vs => if t.2 then v.lst?.bind fun l => storeP (σ.set t.1 (.own l)) r vs else storeP (setS σ t.1 v) r vs
section
variable (G : Gl) (φ : Nat → List PV → Option PV) (F : Nat)
mutual
noncomputable def exS : S → Store → Option (Fl × Store)
 | .asg fr i e, σ => do
  let σ := frz fr σ
  let v ← evX G φ e σ
  some (.nx, setS σ i v)
 | .asg2 fr i j e, σ => do
  let σ := frz fr σ
  let v ← evX G φ e σ
  some (.nx, setS (setS σ i v) j v)
 | .asgO fr i e, σ => do
  let σ := frz fr σ
  let v ← evX G φ e σ
  v.lst?.map fun l => (.nx, σ.set i (.own l))
 | .asgT fr is e, σ => do
  let σ := frz fr σ
  let v ← evX G φ e σ
  match v with
  | .tup vs => if is.length = vs.length then some (.nx, (is.zip vs).foldl (fun σ x => setS σ x.1 x.2) σ) else none
  | .lst vs => if is.length = vs.length then some (.nx, (is.zip vs).foldl (fun σ x => setS σ x.1 x.2) σ) else none
  | z1 => none
 | .asgP fr ts es, σ => do
  let σ := frz fr σ
  let vs ← evXs G φ es σ
  let σ' ← storeP σ ts vs
  some (.nx, σ')
 | .aug fr i op e, σ => do
  let σ := frz fr σ
  (getS σ i).val?.bind fun p => (evX G φ e σ).bind fun v => (augP op p v).bind fun r => some (.nx, setS σ i r)
 | .setI fr i k e, σ => do
  let σ := frz fr σ
  let v ← evX G φ e σ
  (getS σ i).own?.bind fun l => (evX G φ k σ).bind fun kv => kv.int?.bind fun j => if decide (0 ≤ j) && decide (j < l.length) && fitL l.length then some (.nx, σ.set i (.own (l.set j.toNat v))) else none
 | .delI i last, σ => (getS σ i).own?.bind fun l => match l with
   | [] => none
   | x :: r => if fitL (x :: r).length then some (.nx, σ.set i (.own (if last then (x :: r).dropLast else r))) else none
 | .app fr i e, σ => do
  let σ := frz fr σ
  (getS σ i).own?.bind fun l => (evX G φ e σ).bind fun v => if fitL (l.length + 1) then some (.nx, σ.set i (.own (l ++ [v]))) else none
 | .ifS fr c t e, σ => do
  let σ := frz fr σ
  let v ← evX G φ c σ
  let b ← v.truth
  if b then exSs t σ else exSs e σ
 | .whl c b, σ => whileLoop (fun σ => (evX G φ c σ).bind PV.truth) (fun σ => exSs b σ) F σ
 | .forS fr tg one it b, σ => do
  let σ := frz fr σ
  let vs ← evIt G φ it σ
  forLoop one tg (fun σ => exSs b σ) vs σ
 | .ret fr e, σ => do
  let σ := frz fr σ
  let v ← evX G φ e σ
  some (.rt v, σ)
 | .asrt c, σ => do
  let v ← evX G φ c σ
  let b ← v.truth
  if b then some (.nx, σ) else none
noncomputable def exSs : Ss → Store → Option (Fl × Store)
 | .nil, σ => some (.nx, σ)
 | .cons s r, σ => do
  let (f, σ') ← exS s σ
  match f with
  | .nx => exSs r σ'
  | .rt p => some (.rt p, σ')
end
structure Fn where
 np : Nat
 ns : Nat
 body : Ss
noncomputable def runFn (f : Fn) (args : List PV) : Option PV :=
 if args.length = f.np then (exSs G φ F f.body (args.map Slot.val ++ List.replicate (f.ns - f.np) .no)).bind fun q => q.1.rt? else none
end
noncomputable def callN (G : Gl) (T : List Fn) (F : Nat) : Nat → Nat → List PV → Option PV
 | 0, z1, z2 => none
 | n + 1, f, args => (T[f]?).bind fun fn => runFn G (callN G T F n) F fn args
structure Cx where
 kind : List (Str × NameKind)
 nm : List Str
 own : List Str
 gl : List Str
 fn : List Str
noncomputable def slotOf (cx : Cx) (x : Str) : Option Nat :=
 match cx.kind.lookup x with
 | some .local | some .cell => cx.nm.idxOf? x
 | some .free => if x == ("__classdict__" : Str) then none else cx.nm.idxOf? x
 | z1 => none
noncomputable def slotL (cx : Cx) (x : Str) : Option Nat := if cx.kind.lookup x = some .local then cx.nm.idxOf? x else none
noncomputable def slotC (cx : Cx) (x : Str) : Option Nat :=
 match cx.kind.lookup x with
 | some .cell => cx.nm.idxOf? x
 | some .free => if x == ("__classdict__" : Str) then none else cx.nm.idxOf? x
 | z1 => none
noncomputable def slotF (cx : Cx) (x : Str) : Option Nat :=
 match cx.kind.lookup x with
 | some .local | some .cell => cx.nm.idxOf? x
 | z1 => none
noncomputable def isGlob (cx : Cx) (x : Str) : Bool := cx.kind.lookup x == some .globalImplicit && x != ("__debug__" : Str)
noncomputable def litOf : Const → Option PV
 | .none => some .none
 | .bool b => some (.bool b)
 | .int i => some (.int i)
 | .str s => some (.str s.cps.toList)
 | z1 => none
noncomputable def bfOf (x : Str) (n : Nat) : Option Bf :=
 if x == ("len" : Str) && n == 1 then some .len
 else if x == ("chr" : Str) && n == 1 then some .chr
 else if x == ("ord" : Str) && n == 1 then some .ord
 else if x == ("min" : Str) && n == 2 then some .min2
 else if x == ("sum" : Str) && n == 1 then some .sum1
 else if x == ("list" : Str) && n == 1 then some .listOf
 else if x == ("range" : Str) && n == 1 then some .range1
 else if x == ("range" : Str) && n == 2 then some .range2
 else if x == ("range" : Str) && n == 3 then some .range3
 else none
noncomputable def mfOf (x : Str) (n : Nat) : Option Mf :=
 if x == ("lower" : Str) && n == 0 then some .lower
 else if x == ("split" : Str) && n == 1 then some .split
 else if x == ("startswith" : Str) && n == 1 then some .startswith
 else if x == ("endswith" : Str) && n == 1 then some .endswith
 else if x == ("find" : Str) && n == 3 then some .find4
 else if x == ("count" : Str) && n == 1 then some .count
 else if x == ("join" : Str) && n == 1 then some .join
 else none
noncomputable def nameIs : Expr → Option Str
 | .Name x z1 => some x
 | z1 => none
theorem nameIs_of {e : Expr} {x : Str} (h : nameIs e = some x) : ∃ p, e = .Name x p := by
 cases e <;> first | exact nope h | ((obtain rfl := oi h; clear h); exact ⟨_, rfl⟩)
noncomputable def sole {α : Type} : List α → Option α
 | [] => none
 | x :: r => if r.isEmpty then some x else none
theorem sole_of {α : Type} {l : List α} {x : α} (h : sole l = some x) : l = [x] := by
 cases l with
 | nil => exact nope h
 | cons y r => cases r with
  | nil => (obtain rfl := oi h; clear h); rfl
  | cons z1 z2 => exact nope h
noncomputable def pair {α : Type} : List α → Option (α × α)
 | [] => none
 | x :: r => (sole r).map fun y => (x, y)
theorem pair_of {α : Type} {l : List α} {q : α × α} (h : pair l = some q) : l = [q.1, q.2] := by
 cases l with
 | nil => exact nope h
 | cons z r =>
  replace h := mpd h
  obtain ⟨a, ha, h⟩ := h
  cases h; rw [sole_of ha]
noncomputable def gIs (cx : Cx) (y : Str) (e : Expr) : Bool := nameIs e == some y && isGlob cx y
theorem gIs_of {cx : Cx} {y : Str} {e : Expr} (h : gIs cx y e = true) : (∃ p, e = .Name y p) ∧ isGlob cx y = true := by
 unfold gIs at h
 rw [Bool.and_eq_true, beq_iff_eq] at h
 exact ⟨nameIs_of h.1, h.2⟩
noncomputable def ownIs (cx : Cx) (e : Expr) : Option Str := (nameIs e).bind fun x => if cx.own.contains x then some x else none
theorem ownIs_of {cx : Cx} {x : Str} {e : Expr} (h : ownIs cx e = some x) : (∃ p, e = .Name x p) ∧ cx.own.contains x = true := by
 replace h := bnd h
 obtain ⟨y, hy, h⟩ := h
 replace h := its h
 obtain ⟨ho, h⟩ := h
 obtain rfl := oi h
 exact ⟨nameIs_of hy, ho⟩
noncomputable def cutIs : Expr → Option (Option Expr × Option Expr)
 | .Slice lo hi st z1 => if st.isNone then some (lo, hi) else none
 | z1 => none
theorem cutIs_of {e : Expr} {q : Option Expr × Option Expr} (h : cutIs e = some q) : ∃ p, e = .Slice q.1 q.2 none p := by
 cases e with
 | Slice lo hi st p => cases st with
  | none => (obtain rfl := oi h; clear h); exact ⟨_, rfl⟩
  | some z1 => exact nope h
 | _ => exact nope h
noncomputable def strIs : Expr → Option Str
 | .Constant c z1 z2 => (match c with
  | .str s => some s
  | z1 => none)
 | z1 => none
theorem strIs_of {e : Expr} {s : Str} (h : strIs e = some s) : ∃ k p, e = .Constant (.str s) k p := by
 cases e with
 | Constant c k p => cases c <;> first | exact nope h | ((obtain rfl := oi h; clear h); exact ⟨_, _, rfl⟩)
 | _ => exact nope h
noncomputable def replIs (name : Str) (args : List Expr) : Option (Str × Str) := if name == ("replace" : Str) then (pair args).bind fun q => (strIs q.1).bind fun a => (strIs q.2).bind fun b => if a != b then some (a, b) else none else none
theorem replIs_of {name : Str} {args : List Expr} {q : Str × Str} (h : replIs name args = some q) : name = "replace" ∧ q.1 ≠ q.2 ∧ ∃ k p k' p', args = [.Constant (.str q.1) k p, .Constant (.str q.2) k' p'] := by
 replace h := its h
 obtain ⟨hn, h⟩ := h
 replace h := bnd h
 obtain ⟨z, hz, h⟩ := h
 replace h := bnd h
 obtain ⟨a, ha, h⟩ := h
 replace h := bnd h
 obtain ⟨b, hb, h⟩ := h
 replace h := its h
 obtain ⟨hab, h⟩ := h
 obtain rfl := oi h
 obtain ⟨k, p, e⟩ := strIs_of ha
 obtain ⟨k', p', e'⟩ := strIs_of hb
 exact ⟨beq_iff_eq.mp hn, bne_iff_ne.mp hab, k, p, k', p', by rw [pair_of hz, e, e']⟩
noncomputable def lenIs (cx : Cx) (f : Str) (args : List Expr) : Option Str := if f == ("len" : Str) then (sole args).bind (ownIs cx) else none
theorem lenIs_of {cx : Cx} {f x : Str} {args : List Expr} (h : lenIs cx f args = some x) : f = "len" ∧ (∃ p, args = [.Name x p]) := by
 replace h := its h
 obtain ⟨hn, h⟩ := h
 replace h := bnd h
 obtain ⟨z, hz, h⟩ := h
 obtain ⟨⟨p, rfl⟩, _⟩ := ownIs_of h
 exact ⟨beq_iff_eq.mp hn, p, sole_of hz⟩
noncomputable def baseOk : Expr → Bool
 | .Call f args kws z1 => !((nameIs f).isSome && args.isEmpty && kws.isEmpty)
 | z1 => true
noncomputable def allNames : List Expr → Option (List Str)
 | [] => some []
 | e :: r => (nameIs e).bind fun x => (allNames r).map (x :: ·)
noncomputable def tgtOf (cx : Cx) : Expr → Option (Bool × List Nat)
 | .Name x z1 => (slotF cx x).map fun i => (true, [i])
 | .Tuple es z1 z2 => ((allNames es).bind fun ns => ns.mapM (slotF cx)).map fun is => (false, is)
 | z1 => none
noncomputable def tgtL (cx : Cx) : Expr → Option (Bool × List Nat)
 | .Name x z1 => (slotL cx x).map fun i => (true, [i])
 | .Tuple es z1 z2 => ((allNames es).bind fun ns => ns.mapM (slotL cx)).map fun is => (false, is)
 | z1 => none
noncomputable def zipOk (one : Bool) : It → Bool
 | .zip .. => !one
 | z1 => true
noncomputable def freeNames (sc : Scope) : List Str := (sc.names.filter fun x => x.2 == .free).map (·.1)
noncomputable def localNames (sc : Scope) : List Str := (sc.names.filter fun x => x.2 == .local && x.1 != (".0" : Str)).map (·.1)
noncomputable def scopeOk (sc : Scope) : Bool := sc.kind == .function && (sc.names.map (·.1)).Nodup && sc.names.all fun x => x.2 != .cell && x.1 != ("__debug__" : Str)
noncomputable def cxC (cx : Cx) (sc : Scope) : Cx := { cx with kind := sc.names, nm := freeNames sc ++ localNames sc, own := [] }
mutual
noncomputable def cX : Nat → Cx → Expr → Option X
 | 0, z1, z2 => none
 | n + 1, cx, e => match e with
  | .Constant c z1 z2 => (litOf c).map .const
  | .Name x z1 => (match slotOf cx x with
   | some i => some (.var i)
   | none => if isGlob cx x then (cx.gl.idxOf? x).map .glob else none)
  | .BinOp l op r z1 => (cX n cx l).bind fun a => (cX n cx r).bind fun b => some (.bin op a b)
  | .UnaryOp op e z1 => (cX n cx e).bind fun a => match op with
   | .Not => some (.notX a)
   | .USub => some (.neg a)
   | z1 => none
  | .BoolOp op vs z1 => cBool n cx op vs
  | .Compare l ops rs z1 => (match sole ops with
   | some op => (sole rs).bind fun r => if op == .In && gIs cx "b1_set" r then (cX n cx l).map .inB1 else (cX n cx l).bind fun a => (cX n cx r).bind fun b => some (.cmp op a b)
   | none =>
    none
   )
  | .IfExp c a b z1 => (cX n cx c).bind fun x => (cX n cx a).bind fun y => (cX n cx b).bind fun z => some (.ite x y z)
  | .Subscript v i z1 => (match cutIs i with
   | some q => (cX n cx v).bind fun a => (cOpt n cx q.1).bind fun l => (cOpt n cx q.2).bind fun h => some (.slc a l h)
   | none => match ownIs cx v with
    | some x => (slotOf cx x).bind fun s => (cX n cx i).bind fun b => some (.idxO s b)
    | none => (cX n cx v).bind fun a => (cX n cx i).bind fun b => some (.idx a b))
  | .List es z1 => (cXs n cx es).map .list
  | .Tuple es z1 z2 => (cXs n cx es).map .tup
  | .Call c args kws pos => if !kws.isEmpty then none else (match c with
   | .Name f z1 => if !isGlob cx f then none else (match cx.fn.idxOf? f with
    | some k => if args.isEmpty then none else (cXs n cx args).map (.call k)
    | none => if cx.gl.contains f || args.isEmpty then none else match lenIs cx f args with
     | some x => (slotOf cx x).map .lenO
     | none =>
       (bfOf f args.length).bind fun k => (cXs n cx args).bind fun xs => some (.bf k xs))
   | .Attribute o name apos => if !(apos.endLine == pos.line && baseOk o) then none
    else if name == ("get" : Str) && gIs cx "b3_exceptions" o then (sole args).bind fun a => (cX n cx a).map .getB3
    else
     match replIs name args with
     | some q => (cX n cx o).bind fun x => some (.repl x q.1.cps.toList q.2.cps.toList)
     | none =>
      (mfOf name args.length).bind fun k => (cX n cx o).bind fun b => (cXs n cx args).bind fun xs => some (.mf k b xs)
   | z1 => none)
  | .ListComp elt gens sc z1 => (match gens with
   | [] => none
   | g :: gs => if !(g.is_async == 0 && scopeOk sc) then none else
     ((freeNames sc).mapM (slotC cx)).bind fun caps => (cIt n cx g.iter).bind fun i => (tgtL (cxC cx sc) g.target).bind fun t => (cXs n (cxC cx sc) g.ifs).bind fun fs => (cGs n (cxC cx sc) gs elt).bind fun r =>
      if zipOk t.1 i then some (.comp caps (localNames sc).length t.2 t.1 i fs r) else none)
  | z1 => none
noncomputable def cBool : Nat → Cx → BoolOp → List Expr → Option X
 | 0, z1, z2, z3 => none
 | z1 + 1, z2, z3, [] => none
 | n + 1, cx, z1, [e] => cX n cx e
 | n + 1, cx, op, e :: r => do
   let a ← cX n cx e
   let b ← cBool n cx op r
   some (match op with
    | .And => .andX a b
    | .Or => .orX a b)
noncomputable def cOpt : Nat → Cx → Option Expr → Option X
 | 0, z1, z2 => none
 | z1 + 1, z2, none => some (.const .none)
 | n + 1, cx, some e => cX n cx e
noncomputable def cXs : Nat → Cx → List Expr → Option Xs
 | 0, z1, z2 => none
 | z1 + 1, z2, [] => some .nil
 | n + 1, cx, e :: r => do
   let a ← cX n cx e
   let b ← cXs n cx r
   some (.cons a b)
noncomputable def cIt : Nat → Cx → Expr → Option It
 | 0, z1, z2 => none
 | n + 1, cx, e => match ownIs cx e with
  | some x => (slotOf cx x).map .own
  | none =>
    (cX n cx e).map .val
noncomputable def cGs : Nat → Cx → List Comprehension → Expr → Option Gs
 | 0, z1, z2, z3 => none
 | n + 1, cx, [], elt => (cX n cx elt).map .fin
 | n + 1, cx, g :: gs, elt => if !(g.is_async == 0) then none else
   (cIt n cx g.iter).bind fun i => (tgtL cx g.target).bind fun t => (cXs n cx g.ifs).bind fun fs => (cGs n cx gs elt).bind fun r =>
    if zipOk t.1 i then some (.cons t.2 t.1 i fs r) else none
end
mutual
noncomputable def X.vars : X → List Nat
 | .const _ | .glob _ | .lenO z1 => []
 | .var i => [i]
 | .bin _ a b | .andX a b | .orX a b | .cmp _ a b | .idx a b => a.vars ++ b.vars
 | .neg a | .notX a | .repl a _ _ | .inB1 a | .getB3 a => a.vars
 | .chain _ _ a b c | .ite a b c | .slc a b c => a.vars ++ b.vars ++ c.vars
 | .idxO z1 b => b.vars
 | .list l | .tup l | .call _ l | .bf z1 l => l.vars
 | .mf z1 a l => a.vars ++ l.vars
 | .comp caps z1 z2 z3 it z4 z5 => caps ++ it.vars
noncomputable def Xs.vars : Xs → List Nat
 | .nil => []
 | .cons a r => a.vars ++ r.vars
noncomputable def It.vars : It → List Nat
 | .val a => a.vars
 | .own z1 => []
 | .zip a b => a.vars ++ b.vars
end
noncomputable def ownSlots (cx : Cx) : List Nat := cx.own.filterMap (cx.nm.idxOf? ·)
noncomputable def fro (cx : Cx) (l : List Nat) : List Nat := (ownSlots cx).filter l.contains
noncomputable def isOwn (cx : Cx) (x : Str) : Bool := cx.own.contains x
noncomputable def freshC : Expr → Bool
 | .Name f z1 => f == ("list" : Str)
 | .Attribute z1 n z2 => n == ("split" : Str)
 | z1 => false
noncomputable def freshE : Expr → Bool
 | .List .. => true
 | .Call c args z1 z2 => (sole args).isSome && freshC c
 | z1 => false
noncomputable def litE : Expr → Bool
 | .List l z1 => l.isEmpty
 | .Constant .. => true
 | z1 => false
noncomputable def Bf.isL : Bf → Bool
 | .listOf => true
 | z1 => false
theorem Bf.isL_of {k : Bf} (h : k.isL = true) : k = .listOf := by cases k <;> first | rfl | cases h
noncomputable def Mf.isS : Mf → Bool
 | .split => true
 | z1 => false
theorem Mf.isS_of {k : Mf} (h : k.isS = true) : k = .split := by cases k <;> first | rfl | cases h
noncomputable def freshX : X → Bool
 | .list z1 => true
 | .bf k z1 => k.isL
 | .mf k z1 z2 => k.isS
 | z1 => false
noncomputable def isListX : X → Bool
 | .list z1 => true
 | z1 => false
noncomputable def freshXs : List (Nat × Bool) → Xs → Bool
 | [], .nil => true
 | t :: r, .cons a l => (!t.2 || isListX a) && freshXs r l
 | z1, z2 => false
noncomputable def isNilE : Expr → Bool
 | .List l z1 => l.isEmpty
 | z1 => false
noncomputable def tupIs : Expr → Option (List Expr)
 | .Tuple es z1 z2 => some es
 | z1 => none
theorem tupIs_of {e : Expr} {l : List Expr} (h : tupIs e = some l) : ∃ k p, e = .Tuple l k p := by
 cases e <;> first | exact nope h | ((obtain rfl := oi h; clear h); exact ⟨_, _, rfl⟩)
noncomputable def lastIs : Expr → Option Bool
 | .Constant c z1 z2 => if c == .int 0 then some false else none
 | .UnaryOp op e z1 => if op == .USub then (match e with
  | .Constant c z1 z2 => if c == .int 1 then some true else none
  | z1 => none) else none
 | z1 => none
theorem lastIs_of {e : Expr} {b : Bool} (h : lastIs e = some b) : (b = false ∧ ∃ kk kp, e = .Constant (.int 0) kk kp) ∨ (b = true ∧ ∃ kk kp up, e = .UnaryOp .USub (.Constant (.int 1) kk kp) up) := by
 cases e with
 | Constant c k p =>
  replace h := its h
  obtain ⟨hc, h⟩ := h
  obtain rfl := oi h
  exact .inl ⟨rfl, k, p, by rw [eq_of_beq hc]⟩
 | UnaryOp op e p =>
  replace h := its h
  obtain ⟨ho, h⟩ := h
  cases e with
  | Constant c k q =>
   replace h := its h
   obtain ⟨hc, h⟩ := h
   obtain rfl := oi h
   exact .inr ⟨rfl, k, q, p, by rw [eq_of_beq hc, eq_of_beq ho]⟩
  | _ => exact nope h
 | _ => exact nope h
noncomputable def subIs : Expr → Option (Expr × Expr)
 | .Subscript v k z1 => some (v, k)
 | z1 => none
theorem subIs_of {e : Expr} {q : Expr × Expr} (h : subIs e = some q) : ∃ p, e = .Subscript q.1 q.2 p := by
 cases e <;> first | exact nope h | ((obtain rfl := oi h; clear h); exact ⟨_, rfl⟩)
noncomputable def delIs (ts : List Expr) : Option (Str × Bool) := (sole ts).bind fun t => (subIs t).bind fun q => (nameIs q.1).bind fun x => (lastIs q.2).map fun b => (x, b)
theorem delIs_of {ts : List Expr} {z : Str × Bool} (h : delIs ts = some z) : ∃ np sp kx, ts = [.Subscript (.Name z.1 np) kx sp] ∧ ((z.2 = false ∧ ∃ kk kp, kx = .Constant (.int 0) kk kp) ∨ (z.2 = true ∧ ∃ kk kp up, kx = .UnaryOp .USub (.Constant (.int 1) kk kp) up)) := by
 replace h := bnd h
 obtain ⟨t, ht, h⟩ := h
 replace h := bnd h
 obtain ⟨q, hq, h⟩ := h
 replace h := bnd h
 obtain ⟨x, hx, h⟩ := h
 replace h := mpd h
 obtain ⟨b, hb, h⟩ := h
 cases h
 obtain ⟨sp, rfl⟩ := subIs_of hq
 obtain ⟨np, hn⟩ := nameIs_of hx
 exact ⟨np, sp, q.2, by rw [sole_of ht, hn], lastIs_of hb⟩
noncomputable def cOne (n : Nat) (cx : Cx) (t value : Expr) : Option S := match t with
 | .Name x z1 => (slotF cx x).bind fun i => (cX n cx value).bind fun e => some (if isOwn cx x && freshE value && freshX e then .asgO (fro cx e.vars) i e else .asg (fro cx e.vars) i e)
 | .Subscript v k z1 => (nameIs v).bind fun x => if isOwn cx x && (nameIs k).isSome then (slotF cx x).bind fun i => (cX n cx k).bind fun kx => (cX n cx value).bind fun e => some (.setI (fro cx (e.vars ++ kx.vars)) i kx e) else none
 | .Tuple ts z1 z2 => (allNames ts).bind fun names => (names.mapM (slotF cx)).bind fun is => if !decide is.Nodup || ts.isEmpty then none else match tupIs value with
  | some vs => if vs.all (constantsAlone 8) && !vs.all (foldedForSure 8) then none else (cXs n cx vs).bind fun es =>
    let ts := (((names.zip is).map fun (x : Str × Nat) => (x.2, isOwn cx x.1 && vs.all litE)).zip vs).map fun (x : (Nat × Bool) × Expr) => (x.1.1, x.1.2 && isNilE x.2)
    if !(ts.all fun t => !t.2) then none else
    if freshXs ts es && names.length == vs.length && Nat.ble vs.length 1000 then some (.asgP (fro cx es.vars) ts es) else none
  | none =>
   none
 | z1 => none
mutual
noncomputable def cS : Nat → Cx → Stmt → Option S
 | 0, z1, z2 => none
 | n + 1, cx, st => match st with
  | .Assign ts value z1 => (match sole ts with
   | some t => cOne n cx t value
   | none => (pair ts).bind fun q => (nameIs q.1).bind fun x => (nameIs q.2).bind fun y => (slotF cx x).bind fun i => (slotF cx y).bind fun j => (cX n cx value).bind fun e => some (.asg2 (fro cx e.vars) i j e))
  | .AugAssign t op value z1 => (nameIs t).bind fun x => (slotF cx x).bind fun i => (cX n cx value).bind fun e => some (.aug (fro cx (i :: e.vars)) i op e)
  | .Delete ts z1 => (delIs ts).bind fun q => if isOwn cx q.1 then (slotF cx q.1).bind fun i => some (.delI i q.2) else none
  | .If c t e z1 => (cX n cx c).bind fun a => (cSs n cx t).bind fun x => (cSs n cx e).bind fun y => some (.ifS (fro cx a.vars) a x y)
  | .While c b o z1 => if !o.isEmpty then none else (cX n cx c).bind fun a => (cSs n cx b).bind fun x => if (fro cx a.vars).isEmpty then some (.whl a x) else none
  | .For t it b o z1 => if !o.isEmpty then none else (cX n cx it).bind fun a => (tgtOf cx t).bind fun q => (cSs n cx b).bind fun x => some (.forS (fro cx a.vars) q.2 q.1 (.val a) x)
  | .Return e z1 => (match e with
   | some e => (cX n cx e).bind fun a => some (.ret (fro cx a.vars) a)
   | none => none)
  | .Assert c m z1 => if m.isNone then (cX n cx c).bind fun a => if (fro cx a.vars).isEmpty then some (.asrt a) else none else none
  | z1 => none
noncomputable def cSs : Nat → Cx → List Stmt → Option Ss
 | 0, z1, z2 => none
 | z1 + 1, z2, [] => some .nil
 | n + 1, cx, s :: r => (cS n cx s).bind fun a => (cSs n cx r).bind fun b => some (.cons a b)
end
noncomputable def subNm (ts : List Expr) : List Str := ((sole ts).bind fun t => (subIs t).bind fun q => nameIs q.1).toList
noncomputable def appNm : Expr → List Str
 | .Call c z1 z2 z3 => (match c with
  | .Attribute o name z1 => if name == ("append" : Str) then (nameIs o).toList else []
  | z1 => [])
 | z1 => []
mutual
noncomputable def ownIn : Nat → Stmt → List Str
 | 0, z1 => []
 | n + 1, st => match st with
  | .Assign ts z1 z2 => subNm ts
  | .Delete ts z1 => subNm ts
  | .Expr e z1 => appNm e
  | .If z1 t e z2 => ownIns n t ++ ownIns n e
  | .While z1 b z2 z3 => ownIns n b
  | .For z1 z2 b z3 z4 => ownIns n b
  | z1 => []
noncomputable def ownIns : Nat → List Stmt → List Str
 | 0, z1 => []
 | z1 + 1, [] => []
 | n + 1, s :: r => ownIn n s ++ ownIns n r
end
noncomputable def slotNames (ps : List Str) (sc : Scope) : List Str := ps ++ ((sc.names.filter fun x => (x.2 == .local || x.2 == .cell) && !ps.contains x.1).map (·.1))
noncomputable def plainArgs (a : Arguments) : Bool := a.posonlyargs.isEmpty && a.vararg.isNone && a.kwonlyargs.isEmpty && a.kw_defaults.isEmpty && a.kwarg.isNone && a.defaults.isEmpty && !a.args.isEmpty
noncomputable def defScopeOk (sc : Scope) (ps : List Str) : Bool := sc.kind == .function && !sc.isGenerator && !sc.isCoroutine && (sc.names.map (·.1)).Nodup && ps.Nodup &&
 sc.names.all (fun x => x.2 != .free && x.1 != ("__debug__" : Str)) && ps.all fun p => sc.names.lookup p == some .local || sc.names.lookup p == some .cell
noncomputable def cFn (gl fn : List Str) : Stmt → Option (Str × Fn)
 | .FunctionDef name args body ds rt tp sc tc z1 z2 =>
   if !(ds.isEmpty && rt.isNone && tp.isEmpty && tc.isNone) then none else
   if !plainArgs args || !defScopeOk sc (args.args.map (·.arg)) || (docOf body).isSome then none else
   (cSs 60 { kind := sc.names, nm := slotNames (args.args.map (·.arg)) sc, own := (ownIns 60 body).eraseDups, gl := gl, fn := fn } body).bind fun b =>
    some (name, { np := (args.args.map (·.arg)).length, ns := (slotNames (args.args.map (·.arg)) sc).length, body := b })
 | z1 => none
noncomputable def defName : Stmt → Option Str
 | .FunctionDef name .. => some name
 | z1 => none
noncomputable def defNms : List Stmt → List Str
 | [] => []
 | st :: r => match defName st with
  | some name => name :: defNms r
  | none => defNms r
end Rs.Internal
end
section
set_option tactic.hygienic false
open PySem PySem.Calls PyProof.Rows
namespace Rs.Internal
noncomputable def IsLst (h : Heap) (a : Addr) (vs : List Value) : Prop := ∃ n, h.get? a = some { cls := .type "list", data := .seq vs.toArray n }
noncomputable def IsTp (h : Heap) (a : Addr) (vs : List Value) : Prop := ∃ n, h.get? a = some { cls := .type "tuple", data := .seq vs.toArray n }
mutual
noncomputable def Rel (O : List Addr) (h : Heap) : PV → Value → Prop
 | .none, v => v = .none
 | .bool b, v => v = .bool b
 | .int i, v => ∃ t, v = .int i t
 | .str s, v => ∃ t, v = .str ⟨s.toArray⟩ t
 | .tup l, v => ∃ a vs, v = .ref a ∧ a ∉ O ∧ IsTp h a vs ∧ RelL O h l vs
 | .lst l, v => ∃ a vs, v = .ref a ∧ a ∉ O ∧ IsLst h a vs ∧ RelL O h l vs
 | .rng lo hi st, v => ∃ a t1 t2 t3, v = .ref a ∧ a ∉ O ∧ IsRange h a lo hi st t1 t2 t3
noncomputable def RelL (O : List Addr) (h : Heap) : List PV → List Value → Prop
 | [], vs => vs = []
 | p :: ps, vs => ∃ v r, vs = v :: r ∧ Rel O h p v ∧ RelL O h ps r
end
noncomputable def Agree (O : List Addr) (h h' : Heap) : Prop := ∀ b o, b ∉ O → h.get? b = some o → h'.get? b = some o
noncomputable def Above (h h' : Heap) : Prop := ∀ b o, h.get? b = some o → h'.get? b = some o
noncomputable def Bd (O : List Addr) (h : Heap) : Prop := ∀ a ∈ O, a < h.objs.size
theorem Above.refl (h : Heap) : Above h h := fun z1 z2 e => e
theorem Above.trans {h₁ h₂ h₃ : Heap} (x : Above h₁ h₂) (y : Above h₂ h₃) : Above h₁ h₃ := fun b o e => y b o (x b o e)
theorem Above.agree {O : List Addr} {h h' : Heap} (x : Above h h') : Agree O h h' := fun b o z1 e => x b o e
theorem Above.push (h : Heap) (o : Obj) : Above h (h.push o) := fun z1 z2 e => Heap.get?_push_of_some o e
theorem Agree.refl (O : List Addr) (h : Heap) : Agree O h h := fun z1 z2 z3 e => e
theorem Agree.trans {O : List Addr} {h₁ h₂ h₃ : Heap} (x : Agree O h₁ h₂) (y : Agree O h₂ h₃) : Agree O h₁ h₃ := fun b o n e => y b o n (x b o n e)
theorem Agree.mono {O O' : List Addr} {h h' : Heap} (x : Agree O h h') (hs : ∀ a ∈ O, a ∈ O') : Agree O' h h' := fun b o n e => x b o (fun m => n (hs b m)) e
theorem IsLst.agree {O : List Addr} {h h' : Heap} {a : Addr} {vs : List Value} (x : IsLst h a vs) (hk : Agree O h h') (ha : a ∉ O) : IsLst h' a vs := let ⟨n, e⟩ := x; ⟨n, hk _ _ ha e⟩
theorem IsLst.above {h h' : Heap} {a : Addr} {vs : List Value} (x : IsLst h a vs) (hk : Above h h') : IsLst h' a vs := let ⟨n, e⟩ := x; ⟨n, hk _ _ e⟩
theorem IsTp.agree {O : List Addr} {h h' : Heap} {a : Addr} {vs : List Value} (x : IsTp h a vs) (hk : Agree O h h') (ha : a ∉ O) : IsTp h' a vs := let ⟨n, e⟩ := x; ⟨n, hk _ _ ha e⟩
theorem IsTp.above {h h' : Heap} {a : Addr} {vs : List Value} (x : IsTp h a vs) (hk : Above h h') : IsTp h' a vs := let ⟨n, e⟩ := x; ⟨n, hk _ _ e⟩
theorem IsLst.isList {h : Heap} {a : Addr} {vs : List Value} (x : IsLst h a vs) : h.IsList a vs.toArray := let ⟨n, e⟩ := x; ⟨_, e, rfl, n, rfl⟩
theorem IsLst.plain {h : Heap} {a : Addr} {vs : List Value} (x : IsLst h a vs) : h.PlainList a vs.toArray := x
theorem IsTp.isTup {h : Heap} {a : Addr} {vs : List Value} (x : IsTp h a vs) : IsTup h a vs.toArray := let ⟨n, e⟩ := x; ⟨_, e, rfl, n, rfl⟩
theorem IsTp.isTuple {h : Heap} {a : Addr} {vs : List Value} (x : IsTp h a vs) : h.IsTuple a vs.toArray := let ⟨n, e⟩ := x; ⟨_, e, rfl, n, rfl⟩
theorem IsLst.lt {h : Heap} {a : Addr} {vs : List Value} (x : IsLst h a vs) : a < h.objs.size := let ⟨_, e⟩ := x; Heap.lt_size e
theorem IsTp.lt {h : Heap} {a : Addr} {vs : List Value} (x : IsTp h a vs) : a < h.objs.size := let ⟨_, e⟩ := x; Heap.lt_size e
mutual
theorem Rel.agree {O : List Addr} {h h' : Heap} (hk : Agree O h h') : ∀ (p : PV) (v : Value), Rel O h p v → Rel O h' p v
 | .none, z1, x => x
 | .bool z1, z2, x => x
 | .int z1, z2, x => x
 | .str z1, z2, x => x
 | .tup l, z1, x => by
  refine cps fun PP kk => ?_
  obtain ⟨a, vs, ee1, ha, ht, hl⟩ := x
  refine kk ?_
  clear kk PP
  subst ee1
  exact ⟨a, vs, rfl, ha, ht.agree hk ha, RelL.agree hk l vs hl⟩
 | .lst l, z1, x => by
  refine cps fun PP kk => ?_
  obtain ⟨a, vs, ee2, ha, ht, hl⟩ := x
  refine kk ?_
  clear kk PP
  subst ee2
  exact ⟨a, vs, rfl, ha, ht.agree hk ha, RelL.agree hk l vs hl⟩
 | .rng lo n st, z1, x => by
  refine cps fun PP kk => ?_
  obtain ⟨a, t1, t2, t3, ee3, ha, ht⟩ := x
  refine kk ?_
  clear kk PP
  subst ee3
  exact ⟨a, t1, t2, t3, rfl, ha, hk _ _ ha ht⟩
theorem RelL.agree {O : List Addr} {h h' : Heap} (hk : Agree O h h') : ∀ (l : List PV) (vs : List Value), RelL O h l vs → RelL O h' l vs
 | [], z1, x => x
 | p :: ps, z1, x => by
  refine cps fun PP kk => ?_
  obtain ⟨v, r, ee1, hv, hr⟩ := x
  refine kk ?_
  clear kk PP
  subst ee1
  exact ⟨v, r, rfl, Rel.agree hk p v hv, RelL.agree hk ps r hr⟩
end
mutual
theorem Rel.mono {O O' : List Addr} {h : Heap} (hs : ∀ a ∈ O', a ∈ O) : ∀ (p : PV) (v : Value), Rel O h p v → Rel O' h p v
 | .none, z1, x => x
 | .bool z1, z2, x => x
 | .int z1, z2, x => x
 | .str z1, z2, x => x
 | .tup l, z1, x => by
  refine cps fun PP kk => ?_
  obtain ⟨a, vs, ee1, ha, ht, hl⟩ := x
  refine kk ?_
  clear kk PP
  subst ee1
  exact ⟨a, vs, rfl, fun m => ha (hs a m), ht, RelL.mono hs l vs hl⟩
 | .lst l, z1, x => by
  refine cps fun PP kk => ?_
  obtain ⟨a, vs, ee2, ha, ht, hl⟩ := x
  refine kk ?_
  clear kk PP
  subst ee2
  exact ⟨a, vs, rfl, fun m => ha (hs a m), ht, RelL.mono hs l vs hl⟩
 | .rng lo n st, z1, x => by
  refine cps fun PP kk => ?_
  obtain ⟨a, t1, t2, t3, ee3, ha, ht⟩ := x
  refine kk ?_
  clear kk PP
  subst ee3
  exact ⟨a, t1, t2, t3, rfl, fun m => ha (hs a m), ht⟩
theorem RelL.mono {O O' : List Addr} {h : Heap} (hs : ∀ a ∈ O', a ∈ O) : ∀ (l : List PV) (vs : List Value), RelL O h l vs → RelL O' h l vs
 | [], z1, x => x
 | p :: ps, z1, x => by
  refine cps fun PP kk => ?_
  obtain ⟨v, r, ee1, hv, hr⟩ := x
  refine kk ?_
  clear kk PP
  subst ee1
  exact ⟨v, r, rfl, Rel.mono hs p v hv, RelL.mono hs ps r hr⟩
end
mutual
theorem Rel.fresh {O : List Addr} {h : Heap} {b : Addr} (hb : h.objs.size ≤ b) : ∀ (p : PV) (v : Value), Rel O h p v → Rel (b :: O) h p v
 | .none, z1, x => x
 | .bool z1, z2, x => x
 | .int z1, z2, x => x
 | .str z1, z2, x => x
 | .tup l, z1, x => by
  refine cps fun PP kk => ?_
  obtain ⟨a, vs, ee1, ha, ht, hl⟩ := x
  refine kk ?_
  clear kk PP
  subst ee1
  exact ⟨a, vs, rfl, fun m => (List.mem_cons.mp m).elim (fun e => absurd ht.lt (by rw [e]; exact Nat.not_lt.mpr hb)) ha, ht, RelL.fresh hb l vs hl⟩
 | .lst l, z1, x => by
  refine cps fun PP kk => ?_
  obtain ⟨a, vs, ee2, ha, ht, hl⟩ := x
  refine kk ?_
  clear kk PP
  subst ee2
  exact ⟨a, vs, rfl, fun m => (List.mem_cons.mp m).elim (fun e => absurd ht.lt (by rw [e]; exact Nat.not_lt.mpr hb)) ha, ht, RelL.fresh hb l vs hl⟩
 | .rng lo n st, z1, x => by
  refine cps fun PP kk => ?_
  obtain ⟨a, t1, t2, t3, ee3, ha, ht⟩ := x
  refine kk ?_
  clear kk PP
  subst ee3
  exact ⟨a, t1, t2, t3, rfl, fun m => (List.mem_cons.mp m).elim (fun e => absurd (Heap.lt_size ht) (by rw [e]; exact Nat.not_lt.mpr hb)) ha, ht⟩
theorem RelL.fresh {O : List Addr} {h : Heap} {b : Addr} (hb : h.objs.size ≤ b) : ∀ (l : List PV) (vs : List Value), RelL O h l vs → RelL (b :: O) h l vs
 | [], z1, x => x
 | p :: ps, z1, x => by
  refine cps fun PP kk => ?_
  obtain ⟨v, r, ee1, hv, hr⟩ := x
  refine kk ?_
  clear kk PP
  subst ee1
  exact ⟨v, r, rfl, Rel.fresh hb p v hv, RelL.fresh hb ps r hr⟩
end
theorem RelL.length {O : List Addr} {h : Heap} : ∀ {l : List PV} {vs : List Value}, RelL O h l vs → l.length = vs.length := by
 intro l
 induction l with
 | nil =>
  intro _ x
  rw [show _ = [] from x]; rfl
 | cons z1 ps ih__ =>
  intro _ hh
  refine cps fun PP kk => ?_
  obtain ⟨_, _, e, _, hr⟩ := hh
  refine kk ?_
  clear kk PP
  rw [e]; simp [ih__ hr]
theorem RelL.get {O : List Addr} {h : Heap} : ∀ {l : List PV} {vs : List Value} {i : Nat} {p : PV}, RelL O h l vs → l[i]? = some p → ∃ v, vs[i]? = some v ∧ Rel O h p v
 | [], z1, z2, z3, z4, e => by simp at e
 | q :: ps, z1, 0, p, hh, hp => by
  refine cps fun PP kk => ?_
  obtain ⟨v, r, e, hv, _⟩ := hh
  refine kk ?_
  clear kk PP
  simp at hp; subst hp; exact ⟨v, by rw [e]; rfl, hv⟩
 | q :: ps, z1, i + 1, p, hh, hp => by
  refine cps fun PP kk => ?_
  obtain ⟨v, r, e, _, hr⟩ := hh
  refine kk ?_
  clear kk PP
  rw [List.getElem?_cons_succ] at hp
  obtain ⟨u, hu, hx⟩ := RelL.get hr hp
  exact ⟨u, by rw [e]; simpa using hu, hx⟩
theorem RelL.append {O : List Addr} {h : Heap} : ∀ {l m : List PV} {vs ws : List Value}, RelL O h l vs → RelL O h m ws → RelL O h (l ++ m) (vs ++ ws) := by
 intro l
 induction l with
 | nil =>
  intro _ _ _ x y
  rw [show _ = [] from x]; exact y
 | cons z1 z2 ih__ =>
  intro _ _ _ hh y
  refine cps fun PP kk => ?_
  obtain ⟨v, r, e, hv, hr⟩ := hh
  refine kk ?_
  clear kk PP
  rw [e]; exact ⟨v, _, rfl, hv, ih__ hr y⟩
theorem RelL.take {O : List Addr} {h : Heap} : ∀ {l : List PV} {vs : List Value} (n : Nat), RelL O h l vs → RelL O h (l.take n) (vs.take n)
 | [], z1, n, x => by rw [show _ = [] from x, List.take_nil, List.take_nil]; exact rfl
 | z1 :: z2, z3, 0, z4 => rfl
 | z1 :: z2, z3, n + 1, hh => by
  refine cps fun PP kk => ?_
  obtain ⟨v, r, e, hv, hr⟩ := hh
  refine kk ?_
  clear kk PP
  rw [e]; exact ⟨v, _, rfl, hv, RelL.take n hr⟩
theorem RelL.drop {O : List Addr} {h : Heap} : ∀ {l : List PV} {vs : List Value} (n : Nat), RelL O h l vs → RelL O h (l.drop n) (vs.drop n)
 | [], z1, n, x => by rw [show _ = [] from x, List.drop_nil, List.drop_nil]; exact rfl
 | z1 :: z2, z3, 0, x => by simpa using x
 | z1 :: z2, z3, n + 1, hh => by
  refine cps fun PP kk => ?_
  obtain ⟨v, r, e, _, hr⟩ := hh
  refine kk ?_
  clear kk PP
  rw [e]; exact RelL.drop n hr
theorem RelL.set {O : List Addr} {h : Heap} {p : PV} {v : Value} (hx : Rel O h p v) : ∀ {l : List PV} {vs : List Value} (n : Nat), RelL O h l vs → RelL O h (l.set n p) (vs.set n v)
 | [], z1, n, x => by rw [show _ = [] from x, List.set_nil, List.set_nil]; exact rfl
 | z1 :: z2, z3, 0, hh => by
  refine cps fun PP kk => ?_
  obtain ⟨u, r, e, _, hr⟩ := hh
  refine kk ?_
  clear kk PP
  rw [e]; exact ⟨v, r, rfl, hx, hr⟩
 | z1 :: z2, z3, n + 1, hh => by
  refine cps fun PP kk => ?_
  obtain ⟨u, r, e, hu, hr⟩ := hh
  refine kk ?_
  clear kk PP
  rw [e]; exact ⟨u, _, rfl, hu, RelL.set hx n hr⟩
theorem Bd.notin {O : List Addr} {h : Heap} (hb : Bd O h) : h.objs.size ∉ O := fun m => Nat.lt_irrefl _ (hb _ m)
noncomputable def Kp0 (s s' : Shared) : Prop := ∃ h' tk, s' = { s with heap := h', toks := tk } ∧ Above s.heap h'
theorem Kp0.refl (s : Shared) : Kp0 s s := ⟨s.heap, s.toks, rfl, fun z1 z2 e => e⟩
theorem Kp0.toks (s : Shared) (t : Nat) : Kp0 s { s with toks := t } := ⟨s.heap, t, rfl, fun z1 z2 e => e⟩
theorem Kp0.push (s : Shared) (o : Obj) : Kp0 s { s with heap := s.heap.push o } := ⟨_, _, rfl, fun z1 z2 e => Heap.get?_push_of_some o e⟩
theorem Kp0.of (s : Shared) {h' : Heap} {t : Nat} (hk : Above s.heap h') : Kp0 s { s with heap := h', toks := t } := ⟨h', t, rfl, hk⟩
noncomputable def Kp (s s' : Shared) : Prop := Kp0 s s' ∧ s.toks ≤ s'.toks
theorem Kp.above {s s' : Shared} (k : Kp s s') : Above s.heap s'.heap := by obtain ⟨⟨h', tk, rfl, hk⟩, _⟩ := k; exact hk
theorem Kp.refl (s : Shared) : Kp s s := ⟨Kp0.refl s, Nat.le_refl _⟩
theorem Kp.trans {s s' s'' : Shared} (x : Kp s s') (y : Kp s' s'') : Kp s s'' := by
 obtain ⟨⟨h', tk, rfl, hk⟩, l⟩ := x
 obtain ⟨⟨h'', tk', rfl, hk'⟩, l'⟩ := y
 exact ⟨⟨h'', tk', rfl, fun b o e => hk' b o (hk b o e)⟩, Nat.le_trans l l'⟩
theorem Kp.push (s : Shared) (o : Obj) : Kp s { s with heap := s.heap.push o } := ⟨Kp0.push s o, Nat.le_refl _⟩
theorem Kp.tick (s : Shared) : Kp s { s with toks := s.toks + 1 } := ⟨Kp0.toks s _, Nat.le_succ _⟩
noncomputable def Alive (O : List Addr) (h : Heap) : Prop := ∀ a ∈ O, ∃ o, h.get? a = some o
theorem Alive.bd {O : List Addr} {h : Heap} (x : Alive O h) : Bd O h := fun a m => let ⟨_, e⟩ := x a m; Heap.lt_size e
theorem Alive.above {O : List Addr} {h h' : Heap} (x : Alive O h) (k : Above h h') : Alive O h' := fun a m => let ⟨o, e⟩ := x a m; ⟨o, k _ _ e⟩
section
variable {prog : Program} {w : World}
noncomputable def Ev (prog : Program) (w : World) (A : Around) (O : List Addr) (t : Sem Value) (p : PV) (s : Shared) : Prop :=
 wpAny (model prog w) A t (fun v s' => Kp s s' ∧ Rel O s'.heap p v) (fun z1 z2 => False) s
theorem Ev.use {A : Around} {O : List Addr} {t : Sem Value} {p : PV} {s : Shared} {Q : Value → Shared → Prop} {E : Value → Shared → Prop} (h : Ev prog w A O t p s)
  (hQ : ∀ v s', Kp s s' → Rel O s'.heap p v → Q v s') : wpAny (model prog w) A t Q E s :=
 wpAny_mono h (fun v s' x => hQ v s' x.1 x.2) fun z1 z2 x => x.elim
noncomputable def Ev0 (prog : Program) (w : World) (A : Around) (O : List Addr) (t : Sem Value) (p : PV) (s : Shared) : Prop :=
 wpAny (model prog w) A t (fun v s' => Kp0 s s' ∧ Rel O s'.heap p v) (fun z1 z2 => False) s
theorem up {α : Type} {A : Around} {t : Sem α} {P : α → Shared → Prop} {s₀ s : Shared} (k : Kp s₀ s) (h : wpAny (model prog w) A t (fun v s' => Kp0 s s' ∧ P v s') (fun z1 z2 => False) s) :
  wpAny (model prog w) A t (fun v s' => Kp s₀ s' ∧ P v s') (fun z1 z2 => False) s :=
 wpAny_mono (wpAny_toks_of (Nat.le_refl s.toks) h) (fun v s' x => ⟨k.trans ⟨x.2.1, x.1⟩, x.2.2⟩) fun z1 z2 x => x.2.elim
theorem Ev0.up {A : Around} {O : List Addr} {t : Sem Value} {p : PV} {s : Shared} (h : Ev0 prog w A O t p s) : Ev prog w A O t p s := Rs.Internal.up (Kp.refl s) h
theorem Ev0.use {A : Around} {O : List Addr} {t : Sem Value} {p : PV} {s : Shared} {Q : Value → Shared → Prop} {E : Value → Shared → Prop} (h : Ev0 prog w A O t p s)
  (hQ : ∀ v s', Kp s s' → Rel O s'.heap p v → Q v s') : wpAny (model prog w) A t Q E s := h.up.use hQ
noncomputable def EvL (prog : Program) (w : World) (A : Around) (O : List Addr) (t : Sem (List Value)) (l : List PV) (s : Shared) : Prop :=
 wpAny (model prog w) A t (fun vs s' => Kp s s' ∧ RelL O s'.heap l vs) (fun z1 z2 => False) s
theorem EvL.use {A : Around} {O : List Addr} {t : Sem (List Value)} {l : List PV} {s : Shared} {Q : List Value → Shared → Prop} {E : Value → Shared → Prop} (h : EvL prog w A O t l s)
  (hQ : ∀ vs s', Kp s s' → RelL O s'.heap l vs → Q vs s') : wpAny (model prog w) A t Q E s :=
 wpAny_mono h (fun v s' x => hQ v s' x.1 x.2) fun z1 z2 x => x.elim
noncomputable def EvB (prog : Program) (w : World) (A : Around) (t : Sem Bool) (b : Bool) (s : Shared) : Prop :=
 wpAny (model prog w) A t (fun c s' => Kp s s' ∧ c = b) (fun z1 z2 => False) s
theorem EvB.use {A : Around} {t : Sem Bool} {b : Bool} {s : Shared} {Q : Bool → Shared → Prop} {E : Value → Shared → Prop} (h : EvB prog w A t b s)
  (hQ : ∀ s', Kp s s' → Q b s') : wpAny (model prog w) A t Q E s :=
 wpAny_mono h (fun c s' x => by obtain ⟨k, rfl⟩ := x; exact hQ s' k) fun z1 z2 x => x.elim
noncomputable def EvB0 (prog : Program) (w : World) (A : Around) (t : Sem Bool) (b : Bool) (s : Shared) : Prop :=
 wpAny (model prog w) A t (fun c s' => Kp0 s s' ∧ c = b) (fun z1 z2 => False) s
theorem EvB0.use {A : Around} {t : Sem Bool} {b : Bool} {s : Shared} {Q : Bool → Shared → Prop} {E : Value → Shared → Prop} (h : EvB0 prog w A t b s)
  (hQ : ∀ s', Kp s s' → Q b s') : wpAny (model prog w) A t Q E s := EvB.use (Rs.Internal.up (Kp.refl s) h) hQ
theorem Rel.above {O : List Addr} {h h' : Heap} {p : PV} {v : Value} (x : Rel O h p v) (k : Above h h') : Rel O h' p v := Rel.agree k.agree p v x
theorem RelL.above {O : List Addr} {h h' : Heap} {p : List PV} {v : List Value} (x : RelL O h p v) (k : Above h h') : RelL O h' p v := RelL.agree k.agree p v x
theorem rel_new_lst {O : List Addr} {h : Heap} {l : List PV} {vs : List Value} (hb : Bd O h) (hl : RelL O h l vs) :
  Rel O (h.push { cls := .type "list", data := .seq vs.toArray }) (.lst l) (.ref h.objs.size) :=
 ⟨_, vs, rfl, hb.notin, ⟨0, Heap.get?_push_size _ rfl⟩, hl.above (Above.push _ _)⟩
theorem rel_new_tup {O : List Addr} {h : Heap} {l : List PV} {vs : List Value} (hb : Bd O h) (hl : RelL O h l vs) :
  Rel O (h.push { cls := .type "tuple", data := .seq vs.toArray }) (.tup l) (.ref h.objs.size) :=
 ⟨_, vs, rfl, hb.notin, ⟨0, Heap.get?_push_size _ rfl⟩, hl.above (Above.push _ _)⟩
end
section
variable {prog : Program} {w : World} {A : Around} {s : Shared} {O : List Addr}
end
end Rs.Internal
end
section
set_option tactic.hygienic false
open PySem PySem.Calls PyProof.Rows
namespace Rs.Internal
section
variable {prog : Program} {w : World} {A : Around} {s : Shared} {O : List Addr} {env : Env} {pos : Pos} {t : Sem Value} {p : PV}
theorem rel_int (i : Int) (t : Tok) (h : Heap) : Rel O h (.int i) (.int i t) := ⟨t, rfl⟩
theorem rel_str (x : List Nat) (t : Tok) (h : Heap) : Rel O h (.str x) (.str ⟨x.toArray⟩ t) := ⟨t, rfl⟩
theorem rel_str' {x : Str} {l : List Nat} (t : Tok) (h : Heap) (e : x.cps.toList = l) : Rel O h (.str l) (.str x t) := by
 subst e; obtain ⟨a⟩ := x; exact ⟨t, by simp⟩
theorem ev_const {c : Const} {k : Nat} (hl : litOf c = some p) : Ev0 prog w A O (eval (.Constant c k pos) env) p s := by
 rw [arm_eval_Constant]
 cases c with
 | none => obtain rfl := oi hl; exact wpAny_pure ⟨Kp0.refl s, rfl⟩
 | bool b => obtain rfl := oi hl; exact wpAny_pure ⟨Kp0.refl s, rfl⟩
 | int i => obtain rfl := oi hl; exact wpAny_mkInt ⟨Kp0.toks s _, rel_int _ _ _⟩
 | str x => obtain rfl := oi hl; exact wpAny_mkText ⟨Kp0.toks s _, rel_str' _ _ rfl⟩
 | _ => exact nope hl
noncomputable def Rd (env : Env) (h : Heap) (x : Str) (v : Value) : Prop :=
 (x == ("__debug__" : Str)) = false ∧ ((env.kindOf x = some .local ∧ ∃ m, h.Ns env.locals m ∧ m x = some v) ∨
  ((env.kindOf x = some .cell ∨ (env.kindOf x = some .free ∧ (x == ("__classdict__" : Str)) = false)) ∧ ∃ c, env.cells.lookup x = some c ∧ h.IsCell c (some v)))
theorem Rd.above {h h' : Heap} {x : Str} {v : Value} (r : Rd env h x v) (k : Above h h') : Rd env h' x v := by
 obtain ⟨d, (⟨a, m, b, c⟩ | ⟨a, c, b, d'⟩)⟩ := r
 ·exact ⟨d, .inl ⟨a, m, b.keeps k, c⟩⟩
 ·exact ⟨d, .inr ⟨a, c, b, d'.keeps k⟩⟩
theorem Rd.load {M : Model} {x : Str} {v : Value} {Q : Value → Shared → Prop} {E : Value → Shared → Prop} (hk : env.scope.kind = .function) (r : Rd env s.heap x v) (h : Q v s) : wpAny M A (loadName env x) Q E s := by
 obtain ⟨_, (⟨a, m, b, c⟩ | ⟨a, c, b, d'⟩)⟩ := r
 ·exact wpAny_loadName_local hk a b c h
 ·rcases a with a | ⟨a, n⟩
  ·exact wpAny_loadName_cell hk a b d' h
  ·exact wpAny_loadName_free hk a b d' h n
theorem ev_var {x : Str} {v : Value} (hk : env.scope.kind = .function) (r : Rd env s.heap x v) (h : Rel O s.heap p v) : Ev0 prog w A O (eval (.Name x pos) env) p s :=
 wpAny_Name (r.load hk ⟨Kp0.refl s, h⟩) r.1
theorem ev_glob {x : Str} {v : Value} {mg : Str → Option Value} (hk : env.scope.kind = .function) (hx : env.kindOf x = some .globalImplicit) (hg : env.globals = mainGlobals) (hn : s.heap.Ns mainGlobals mg)
  (hv : mg x = some v) (hd : (x == ("__debug__" : Str)) = false) (h : Rel O s.heap p v) : Ev0 prog w A O (eval (.Name x pos) env) p s :=
 Name_function_global hk hx (loadGlobal_global (hg ▸ hn) hv ⟨Kp0.refl s, h⟩) hd
theorem small_iff {i : Int} (h : small i = true) : -1073741824 < i ∧ i < 1073741824 := by
 unfold small at h; simpa using h
theorem fitL_iff {n : Nat} (h : fitL n = true) : n ≤ 1048576 := by unfold fitL at h; exact Nat.le_of_ble_eq_true h
theorem fit_line {n : Nat} (h : n ≤ 2097152) : n ≤ sizeLine := by rw [sizeLine_eq]; lia
theorem foldl_append_eq : ∀ (l : List (Array Nat)) (a : Array Nat), (l.foldl (· ++ ·) a).toList = a.toList ++ (l.map Array.toList).flatten := by
 intro l
 induction l with
 | nil =>
  intro a
  simp
 | cons x r ih__ =>
  intro a
  rw [List.foldl_cons, ih__]; simp
set_option tactic.hygienic true in
theorem mul_text (x : List Nat) (n : Int) (h0 : 0 ≤ n) : (Txt.mul ⟨x.toArray⟩ n).cps.toList = mulStr x n.toNat := by
 unfold Txt.mul mulStr
 split
 ·have : n.toNat = 0 := by lia
  rw [this]; rfl
 ·split
  ·rename_i h1 h2
   simp only [Bool.or_eq_true, beq_iff_eq] at h2
   rcases h2 with rfl | h2
   ·simp
   ·have : x = [] := by simpa [Str.length] using h2
    subst this
    rw [List.flatten_replicate_nil]
  ·rw [foldl_append_eq]; simp
theorem intP_inv {f : Int → Int → Option PV} {a b : Value} {x y : PV} {h : Heap} (hp : intP f x y = some p) (ha : Rel O h x a) (hb' : Rel O h y b) : ∃ i j t u, f i j = some p ∧ a = .int i t ∧ b = .int j u := by
 replace hp := bnd hp
 obtain ⟨i, hi, hp⟩ := hp
 replace hp := bnd hp
 obtain ⟨j, hj, hp⟩ := hp
 rw [PV.int_of hi] at ha
 rw [PV.int_of hj] at hb'
 refine cps fun PP kk => ?_
 obtain ⟨t, ee1⟩ := ha; obtain ⟨u, ee2⟩ := hb'
 refine kk ?_
 clear kk PP
 subst ee1
 subst ee2
 exact ⟨i, j, t, u, hp, rfl, rfl⟩
theorem ev_addS {x y : List Nat} {t u : Tok} (hp : (if fitL (x.length + y.length) then some (PV.str (x ++ y)) else none) = some p) : Ev0 prog w A O (binaryOp .Add (.str ⟨x.toArray⟩ t) (.str ⟨y.toArray⟩ u)) p s := by
 replace hp := its hp
 obtain ⟨hf, hp⟩ := hp
 obtain rfl := oi hp
 replace hf := fitL_iff hf
 refine add_str (fun t' tk => ⟨Kp0.toks s _, rel_str' _ _ ?_⟩) (fit_line ?_)
 ·show ((⟨x.toArray⟩ : Str) ++ (⟨y.toArray⟩ : Str)).cps.toList = x ++ y
  rw [Str.cps_append]; simp
 ·show x.toArray.size + y.toArray.size ≤ _
  simp; lia
theorem ev_addL {l m : List PV} {a b : Value} (hb : Alive O s.heap) (ha : Rel O s.heap (.lst l) a) (hb' : Rel O s.heap (.lst m) b) (hp : (if fitL (l.length + m.length) then some (PV.lst (l ++ m)) else none) = some p) : Ev0 prog w A O (binaryOp .Add a b) p s := by
 replace hp := its hp
 obtain ⟨hf, hp⟩ := hp
 obtain rfl := oi hp
 replace hf := fitL_iff hf
 refine cps fun PP kk => ?_
 obtain ⟨a, vs, ee1, ha, ⟨n, hl⟩, hx⟩ := ha
 refine kk ?_
 clear kk PP
 subst ee1
 refine cps fun PP kk => ?_
 obtain ⟨b, ws, ee2, hb', ⟨n', hl'⟩, hy⟩ := hb'
 refine kk ?_
 clear kk PP
 subst ee2
 have e : vs.toArray ++ ws.toArray = (vs ++ ws).toArray := by simp
 refine concat_meets ⟨_, hl, rfl⟩ ⟨_, hl', rfl⟩ noFill_list_add seq_list_add PySem.F.slot_list_add PySem.F.entry_list_add (PySem.F.args_list_add_2 _ _) (list_addW a b vs.toArray ws.toArray n n' none none #[] #[] (fit_line ?_)) ⟨hl, hl', ?_⟩
 ·have := hx.length; have := hy.length; simp; lia
 ·rw [e]
  exact ⟨Kp0.push s _, rel_new_lst hb.bd (hx.append hy)⟩
theorem ev_add {a b : Value} {x y : PV} (hb : Alive O s.heap) (ha : Rel O s.heap x a) (hb' : Rel O s.heap y b) (hp : addP x y = some p) : Ev0 prog w A O (binaryOp .Add a b) p s := by
 cases x with
 | int i =>
  replace hp := mpd hp
  obtain ⟨j, hj, rfl⟩ := hp
  rw [PV.int_of hj] at hb'
  refine cps fun PP kk => ?_
  obtain ⟨t, ee1⟩ := ha; obtain ⟨u, ee2⟩ := hb'
  refine kk ?_
  clear kk PP
  subst ee1
  subst ee2
  exact P.add_int ⟨Kp0.toks s _, rel_int _ _ _⟩
 | str i =>
  replace hp := bnd hp
  obtain ⟨j, hj, hp⟩ := hp
  rw [PV.str_of hj] at hb'
  refine cps fun PP kk => ?_
  obtain ⟨t, ee3⟩ := ha; obtain ⟨u, ee4⟩ := hb'
  refine kk ?_
  clear kk PP
  subst ee3
  subst ee4
  exact ev_addS hp
 | lst l =>
  replace hp := bnd hp
  obtain ⟨m, hm, hp⟩ := hp
  rw [PV.lst_of hm] at hb'
  exact ev_addL hb ha hb' hp
 | _ => exact nope hp
theorem ev_mulS {x : List Nat} {j : Int} {t u : Tok} (hp : (if decide (0 ≤ j) && fitL (x.length * j.toNat) && fitL j.toNat then some (PV.str (mulStr x j.toNat)) else none) = some p) : Ev0 prog w A O (binaryOp .Mult (.str ⟨x.toArray⟩ t) (.int j u)) p s := by
 replace hp := its hp
 obtain ⟨hf, hp⟩ := hp
 obtain rfl := oi hp
 simp only [Bool.and_eq_true, decide_eq_true_eq] at hf
 have h0 := hf.1.1
 have h1 := fitL_iff hf.1.2
 have h2 := fitL_iff hf.2
 have hx : (⟨x.toArray⟩ : Str).length = x.length := by simp [Str.length]
 clear hf
 refine SB.mul ⟨?_, fun h3 h4 => ?_, fun h3 h4 => ?_⟩ fun t' k => ⟨Kp0.toks s _, rel_str' _ _ (mul_text x j h0)⟩
 ·simp; lia
 ·rw [Int.not_lt] at h3
  rw [hx]
  have hj : ((j.toNat : Nat) : Int) = j := Int.toNat_of_nonneg h0
  have h5 : (x.length : Int) * j ≤ 2 ^ 63 - 1 := by
   have e : ((x.length * j.toNat : Nat) : Int) = (x.length : Int) * j := by rw [Int.natCast_mul, hj]
   rw [← e]
   generalize x.length * j.toNat = m at h1 ⊢
   clear e hj h3 h2 h0 hx h4
   lia
  have := (Int.le_ediv_iff_mul_le (by lia : (0 : Int) < j)).mpr h5
  clear h5 hj h2 h1 h0 hx
  lia
 ·rw [hx]
  unfold Builtin.Str.tooLong sizeLine
  exact decide_eq_false (by clear hx h0 h2; lia)
theorem ev_mul {a b : Value} {x y : PV} (ha : Rel O s.heap x a) (hb' : Rel O s.heap y b) (hp : mulP x y = some p) : Ev0 prog w A O (binaryOp .Mult a b) p s := by
 cases x with
 | int i =>
  replace hp := bnd hp
  obtain ⟨j, hj, hp⟩ := hp
  rw [PV.int_of hj] at hb'
  refine cps fun PP kk => ?_
  obtain ⟨t, ee1⟩ := ha; obtain ⟨u, ee2⟩ := hb'
  refine kk ?_
  clear kk PP
  subst ee1
  subst ee2
  replace hp := its hp
  obtain ⟨hf, hp⟩ := hp
  obtain rfl := oi hp
  rw [Bool.and_eq_true] at hf
  refine P.mul_int ⟨Kp0.toks s _, rel_int _ _ _⟩ ?_
  have h1 := small_iff hf.1
  clear hf
  exact .of_left (intBits_le_64 (by lia) (by lia))
 | str i =>
  replace hp := bnd hp
  obtain ⟨j, hj, hp⟩ := hp
  rw [PV.int_of hj] at hb'
  refine cps fun PP kk => ?_
  obtain ⟨t, ee3⟩ := ha; obtain ⟨u, ee4⟩ := hb'
  refine kk ?_
  clear kk PP
  subst ee3
  subst ee4
  exact ev_mulS hp
 | _ => exact nope hp
theorem ev_pow {i j : Int} {t u : Tok} (hp : (if decide (i = 2) && decide (0 ≤ j) && decide (j ≤ 64) then some (PV.int (2 ^ j.toNat)) else none) = some p) : Ev0 prog w A O (binaryOp .Pow (.int i t) (.int j u)) p s := by
 replace hp := its hp
 obtain ⟨hf, hp⟩ := hp
 obtain rfl := oi hp
 simp only [Bool.and_eq_true, decide_eq_true_eq] at hf
 obtain ⟨⟨rfl, h0⟩, h1⟩ := hf
 refine AutoIntOpsIf.pow ?_
 rw [if_pos h0]
 by_cases hj : j = 0
 ·subst hj
  exact ⟨Kp0.toks s _, rel_int _ _ _⟩
 ·rw [if_neg (by simpa using hj), if_neg (by decide), if_neg (by decide), if_neg ?_]
  ·exact ⟨Kp0.toks s _, rel_int _ _ _⟩
  ·have : Builtin.Int.intBits 2 = 2 := by decide +kernel
   rw [this]
   have e : ((bitsLine : Nat) : Int) = 134217728 := by decide
   unfold Builtin.Int.intTooBig
   rw [decide_eq_true_eq, e]
   lia
theorem ev_binop {a b : Value} {x y : PV} {op : Operator} (hb : Alive O s.heap) (ha : Rel O s.heap x a) (hb' : Rel O s.heap y b) (hp : binP op x y = some p) : Ev0 prog w A O (binaryOp op a b) p s := by
 cases op with
 | Add => exact ev_add hb ha hb' hp
 | Mult => exact ev_mul ha hb' hp
 | Sub =>
  replace hp := intP_inv hp ha hb'
  refine cps fun PP kk => ?_
  obtain ⟨i, j, t, u, hp, ee1, ee2⟩ := hp
  refine kk ?_
  clear kk PP
  subst ee1
  subst ee2
  obtain rfl := oi hp
  exact P.sub_int ⟨Kp0.toks s _, rel_int _ _ _⟩
 | FloorDiv =>
  replace hp := intP_inv hp ha hb'
  refine cps fun PP kk => ?_
  obtain ⟨i, j, t, u, hp, ee3, ee4⟩ := hp
  refine kk ?_
  clear kk PP
  subst ee3
  subst ee4
  replace hp := its hp
  obtain ⟨hf, hp⟩ := hp
  obtain rfl := oi hp
  rw [Bool.and_eq_true, decide_eq_true_eq] at hf
  have h2 := small_iff hf.2
  exact floordiv_int hf.1 ⟨Kp0.toks s _, rel_int _ _ _⟩ (.inl (PyProof.noPylong_small (by clear hf; lia)))
 | Mod =>
  replace hp := intP_inv hp ha hb'
  refine cps fun PP kk => ?_
  obtain ⟨i, j, t, u, hp, ee5, ee6⟩ := hp
  refine kk ?_
  clear kk PP
  subst ee5
  subst ee6
  replace hp := its hp
  obtain ⟨hf, hp⟩ := hp
  obtain rfl := oi hp
  rw [decide_eq_true_eq] at hf
  exact mod_int' hf ⟨Kp0.toks s _, rel_int _ _ _⟩
 | Pow =>
  replace hp := intP_inv hp ha hb'
  refine cps fun PP kk => ?_
  obtain ⟨i, j, t, u, hp, ee7, ee8⟩ := hp
  refine kk ?_
  clear kk PP
  subst ee7
  subst ee8
  exact ev_pow hp
 | _ => exact nope hp
end
end Rs.Internal
end
section
set_option tactic.hygienic false
set_option backward.match.sparseCases false
open PySem PySem.Calls PyProof.Rows PySem.SeqAt
namespace Rs.Internal
theorem str_len (x : List Nat) : (⟨x.toArray⟩ : Str).length = x.length := by simp [Str.length]
theorem str_beq (x y : List Nat) : ((⟨x.toArray⟩ : Str) == ⟨y.toArray⟩) = (x == y) := by
 by_cases h : x = y
 ·subst h; simp
 ·have : (⟨x.toArray⟩ : Str) ≠ ⟨y.toArray⟩ := fun e => h (by simpa using congrArg (·.cps.toList) e)
  rw [beq_eq_false_iff_ne.mpr this, beq_eq_false_iff_ne.mpr h]
section
variable {prog : Program} {w : World} {A : Around} {s : Shared} {O : List Addr} {env : Env} {pos : Pos} {t : Sem Value} {p : PV}
set_option tactic.hygienic true in
theorem ev_truthy {v : Value} {b : Bool} (hr : Rel O s.heap p v) (ht : p.truth = some b) : EvB0 prog w A (truthy v) b s := by
 cases p with
 | none => (obtain rfl := oi ht; clear ht); obtain rfl := hr; exact fun z1 z2 z3 => ⟨Kp0.refl s, rfl⟩
 | bool c => (obtain rfl := oi ht; clear ht); obtain rfl := hr; exact wpAny_truthy_bool ⟨Kp0.refl s, rfl⟩
 | int i => (obtain rfl := oi ht; clear ht); obtain ⟨t, rfl⟩ := hr; exact PyProof.Rows.truthy_int ⟨Kp0.refl s, rfl⟩
 | str x =>
  obtain ⟨t, rfl⟩ := hr
  obtain ⟨hf, ht⟩ := its ht
  ·obtain rfl := oi ht
   replace hf := Nat.le_of_ble_eq_true hf
   refine P.truthy_str (by rw [str_len]; lia) ⟨Kp0.toks s _, ?_⟩
   rw [str_len]
   cases x with
   | nil => rfl
   | cons a r => simp; lia
 | lst l =>
  refine cps fun PP kk => ?_
  obtain ⟨a, vs, ee1, ha, hl, hx⟩ := hr
  refine kk ?_
  clear kk PP
  subst ee1
  obtain ⟨hf, ht⟩ := its ht
  ·obtain rfl := oi ht
   replace hf := Nat.le_of_ble_eq_true hf
   have hlen := hx.length
   refine wpAny_truthy_list hl.isList (by simp; lia) ⟨Kp0.toks s _, ?_⟩
   cases l with
   | nil => rw [show vs = [] from hx]; rfl
   | cons p r => obtain ⟨v, r', rfl, _⟩ := hx; rfl
 | tup l => exact nope ht
 | rng => exact nope ht
theorem rc_eq0 {x y : PV} {a b : Value} {c : Bool} (h : PV.eq0 x y = some c) (ha : Rel O s.heap x a) (hb : Rel O s.heap y b) : RcAt A s a b c := by
 cases x with
 | none =>
  obtain ⟨hy, h⟩ := its h
  rw [PV.none_of hy] at hb
  obtain rfl := oi h
  obtain rfl := ha; obtain rfl := hb; exact RcAt.none_none
 | bool i =>
  obtain ⟨j, hj, rfl⟩ := mpd h
  rw [PV.bool_of hj] at hb
  obtain rfl := ha; obtain rfl := hb; exact RcAt.bool_bool _ _
 | int i =>
  obtain ⟨j, hj, rfl⟩ := mpd h
  rw [PV.int_of hj] at hb
  obtain ⟨t, rfl⟩ := ha; obtain ⟨u, rfl⟩ := hb; exact RcAt.int_int _ _ _ _
 | str i =>
  obtain ⟨j, hj, rfl⟩ := mpd h
  rw [PV.str_of hj] at hb
  obtain ⟨t, rfl⟩ := ha; obtain ⟨u, rfl⟩ := hb; rw [← str_beq]; exact RcAt.str_str _ _ _ _
 | _ => exact nope h
theorem rcne_eq0 {x y : PV} {a b : Value} {c : Bool} (h : PV.eq0 x y = some c) (ha : Rel O s.heap x a) (hb : Rel O s.heap y b) : RcNeAt A s a b (!c) := by
 cases x with
 | none =>
  obtain ⟨hy, h⟩ := its h
  rw [PV.none_of hy] at hb
  obtain rfl := oi h
  obtain rfl := ha; obtain rfl := hb; exact RcNeAt.none_none
 | bool i =>
  obtain ⟨j, hj, rfl⟩ := mpd h
  rw [PV.bool_of hj] at hb
  obtain rfl := ha; obtain rfl := hb; exact RcNeAt.bool_bool _ _
 | int i =>
  obtain ⟨j, hj, rfl⟩ := mpd h
  rw [PV.int_of hj] at hb
  obtain ⟨t, rfl⟩ := ha; obtain ⟨u, rfl⟩ := hb; exact RcNeAt.int_int _ _ _ _
 | str i =>
  obtain ⟨j, hj, rfl⟩ := mpd h
  rw [PV.str_of hj] at hb
  obtain ⟨t, rfl⟩ := ha; obtain ⟨u, rfl⟩ := hb; rw [← str_beq]; exact RcNeAt.str_str _ _ _ _
 | _ => exact nope h
theorem eq_eq0 {x y : PV} {a b : Value} {c : Bool} (h : PV.eq0 x y = some c) (ha : Rel O s.heap x a) (hb : Rel O s.heap y b) : EqAt A s a b c := by
 cases x with
 | none =>
  obtain ⟨hy, h⟩ := its h
  rw [PV.none_of hy] at hb
  obtain rfl := oi h
  obtain rfl := ha; obtain rfl := hb; exact EqAt.same _
 | bool i =>
  obtain ⟨j, hj, rfl⟩ := mpd h
  rw [PV.bool_of hj] at hb
  obtain rfl := ha; obtain rfl := hb; exact EqAt.bool_bool _ _
 | int i =>
  obtain ⟨j, hj, rfl⟩ := mpd h
  rw [PV.int_of hj] at hb
  obtain ⟨t, rfl⟩ := ha; obtain ⟨u, rfl⟩ := hb; exact EqAt.int_int _ _ _ _
 | str i =>
  obtain ⟨j, hj, rfl⟩ := mpd h
  rw [PV.str_of hj] at hb
  obtain ⟨t, rfl⟩ := ha; obtain ⟨u, rfl⟩ := hb; rw [← str_beq]; exact EqAt.str_str _ _ _ _
 | _ => exact nope h
noncomputable def eqP (l m : List PV) (j : Nat) : Bool := match l[j]?, m[j]? with
 | some x, some y => (PV.eq0 x y).getD false
 | z1, z2 => false
theorem eqL_all : ∀ {l m : List PV} {c : Bool}, eqL l m = some c → l.length = m.length ∧ c = (List.range l.length).all (eqP l m) ∧ ∀ (j : Nat) (x y : PV), l[j]? = some x → m[j]? = some y → PV.eq0 x y = some (eqP l m j)
 | [], [], c, h => by
  obtain rfl := oi h
  exact ⟨rfl, rfl, fun j x y h => by simp at h⟩
 | x :: xs, y :: ys, c, h => by
  replace h := bnd h
  obtain ⟨a, ha, h⟩ := h
  replace h := bnd h
  obtain ⟨b, hb, h⟩ := h
  obtain rfl := oi h
  obtain ⟨h1, h2, h3⟩ := eqL_all hb
  have e0 : eqP (x :: xs) (y :: ys) 0 = a := by show (PV.eq0 x y).getD false = a; rw [ha]; rfl
  have eS : ∀ j, eqP (x :: xs) (y :: ys) (j + 1) = eqP xs ys j := fun j => rfl
  refine ⟨by simp [h1], ?_, fun j u v hu hv => ?_⟩
  ·rw [List.length_cons, List.range_succ_eq_map, List.all_cons, e0, h2, List.all_map]
   congr 1
  ·cases j with
   | zero => simp at hu hv; subst hu hv; rw [e0]; exact ha
   | succ j => rw [eS]; exact h3 j u v (by simpa using hu) (by simpa using hv)
 | z1 :: z2, [], z3, h => nope h
 | [], z1 :: z2, z3, h => nope h
theorem places {l m : List PV} {vs ws : List Value} {c : Bool} (h : eqL l m = some c) (hx : RelL O s.heap l vs) (hy : RelL O s.heap m ws) :
  ∀ (j : Nat) (h1 : j < vs.toArray.size) (h2 : j < ws.toArray.size), EqAt A s vs.toArray[j] ws.toArray[j] (eqP l m j) := fun j h1 h2 => by
 obtain ⟨e, _, h3⟩ := eqL_all h
 simp only [List.size_toArray] at h1 h2
 have l1 := hx.length
 have l2 := hy.length
 have g1 : l[j]? = some l[j] := List.getElem?_eq_getElem (by lia)
 have g2 : m[j]? = some m[j] := List.getElem?_eq_getElem (by lia)
 obtain ⟨a, ea, ra⟩ := hx.get g1
 obtain ⟨b, eb, rb⟩ := hy.get g2
 have : vs.toArray[j] = a := by rw [List.getElem?_eq_getElem h1] at ea; simpa using ea
 rw [this]
 have : ws.toArray[j] = b := by rw [List.getElem?_eq_getElem h2] at eb; simpa using eb
 rw [this]
 exact eq_eq0 (h3 j _ _ g1 g2) ra rb
theorem ev_eq {x y : PV} {a b : Value} {c : Bool} (hu : A.units < cLine) (h : PV.eqb x y = some c) (ha : Rel O s.heap x a) (hb : Rel O s.heap y b) : RcAt A s a b c ∧ RcNeAt A s a b (!c) := by
 cases x with
 | tup l =>
  obtain ⟨m, hm, h⟩ := bnd h
  rw [PV.tup_of hm] at hb
  refine cps fun PP kk => ?_
  obtain ⟨a, vs, ee1, ha, hl, hx⟩ := ha
  refine kk ?_
  clear kk PP
  subst ee1
  refine cps fun PP kk => ?_
  obtain ⟨b, ws, ee2, hb, hl', hy⟩ := hb
  refine kk ?_
  clear kk PP
  subst ee2
  obtain ⟨e1, e2, _⟩ := eqL_all h
  have l1 := hx.length
  have l2 := hy.length
  have e3 : c = ((List.range (min vs.toArray.size ws.toArray.size)).all (eqP l m) && vs.toArray.size == ws.toArray.size) := by
   rw [e2]
   have : min vs.toArray.size ws.toArray.size = l.length := by simp; lia
   rw [this]
   have : (vs.toArray.size == ws.toArray.size) = true := by simp; lia
   rw [this, Bool.and_true]
  rw [e3]
  exact ⟨RcAt.tuples hl.isTuple hl'.isTuple hu (places h hx hy), RcNeAt.tuples hl.isTuple hl'.isTuple hu (places h hx hy)⟩
 | lst l => exact nope h
 | none => exact ⟨rc_eq0 (x := .none) (y := y) h ha hb, rcne_eq0 (x := .none) (y := y) h ha hb⟩
 | bool i => exact ⟨rc_eq0 (x := .bool i) (y := y) h ha hb, rcne_eq0 (x := .bool i) (y := y) h ha hb⟩
 | int i => exact ⟨rc_eq0 (x := .int i) (y := y) h ha hb, rcne_eq0 (x := .int i) (y := y) h ha hb⟩
 | str i => exact ⟨rc_eq0 (x := .str i) (y := y) h ha hb, rcne_eq0 (x := .str i) (y := y) h ha hb⟩
 | rng => exact nope h
theorem lt_eq_ltS : ∀ a b : List Nat, decide (a < b) = ltS a b
 | [], [] => decide_eq_false (List.not_lt_nil _)
 | [], z1 :: z2 => decide_eq_true (List.nil_lt_cons _ _)
 | z1 :: z2, [] => decide_eq_false (List.not_lt_nil _)
 | x :: xs, y :: ys => by rw [StrLaws.lt_cons_cons, lt_eq_ltS xs ys]; rfl
theorem subIn_iff (w : List Nat) : ∀ x : List Nat, subIn w x = true ↔ ∃ i, i + w.length ≤ x.length ∧ (x.drop i).take w.length = w := by
 intro x
 induction x with
 | nil =>
  rw [show subIn w [] = w.isEmpty from rfl, List.isEmpty_iff]
  constructor
  ·rintro rfl; exact ⟨0, by simp, by simp⟩
  ·rintro ⟨i, h1, h2⟩
   have : w.length = 0 := by rw [List.length_nil] at h1; lia
   exact List.length_eq_zero_iff.mp this
 | cons a r ih__ =>
  rw [show subIn w (a :: r) = (List.isPrefixOf w (a :: r) || subIn w r) from rfl, Bool.or_eq_true, List.isPrefixOf_iff_prefix, ih__]
  constructor
  ·rintro (⟨u, h⟩ | ⟨i, h1, h2⟩)
   ·exact ⟨0, by rw [← h]; simp, by rw [← h]; simp⟩
   ·exact ⟨i + 1, by simp; lia, by simpa using h2⟩
  ·rintro ⟨i, h1, h2⟩
   cases i with
   | zero => exact .inl (List.prefix_iff_eq_take.mpr (by simpa using h2.symm))
   | succ i => exact .inr ⟨i, by simp at h1; lia, by simpa using h2⟩
theorem in_text (x y : List Nat) : (!(Builtin.Str.occurrences ⟨x.toArray⟩ ⟨y.toArray⟩ 0 (⟨x.toArray⟩ : Str).length 1).isEmpty) = subIn y x := by
 rw [Bool.eq_iff_iff, StrLaws.found_iff, subIn_iff]
 constructor
 ·rintro ⟨i, h1, h2⟩
  rw [StrLaws.subAt_eq] at h2
  simp only [str_len] at h1 h2
  exact ⟨i, h1, by simpa using h2⟩
 ·rintro ⟨i, h1, h2⟩
  refine ⟨i, by simpa only [str_len] using h1, ?_⟩
  rw [StrLaws.subAt_eq]
  simp only [str_len]
  simpa using h2
end
end Rs.Internal
end
section
set_option tactic.hygienic false
open PySem PySem.Calls PyProof.Rows PySem.SeqAt
namespace Rs.Internal
section
variable {prog : Program} {w : World} {A : Around} {s : Shared} {O : List Addr} {env : Env} {pos : Pos} {t : Sem Value} {p : PV}
theorem ev_bool (b : Bool) (s : Shared) (O : List Addr) : Kp0 s s ∧ Rel O s.heap (.bool b) (.bool b) := ⟨Kp0.refl s, rfl⟩
theorem rel_plain {h : Heap} {v : Value} (hr : Rel O h p v) (hp : p ≠ .none) : plainIs .none v = true ∧ plainIs v .none = true ∧ (Value.none == v) = false ∧ (v == Value.none) = false := by
 cases p
 ·exact absurd rfl hp
 all_goals first | (obtain rfl := hr; exact ⟨rfl, rfl, rfl, rfl⟩) | (obtain ⟨_, rfl⟩ := hr; exact ⟨rfl, rfl, rfl, rfl⟩) | (obtain ⟨_, _, rfl, _⟩ := hr; exact ⟨rfl, rfl, rfl, rfl⟩) | (obtain ⟨_, _, _, _, rfl, _⟩ := hr; exact ⟨rfl, rfl, rfl, rfl⟩)
theorem beq_vbool (a b : Bool) : (Value.bool a == Value.bool b) = (a == b) := by cases a <;> cases b <;> rfl
theorem cInt_inv {f : Int → Int → Bool} {a b : Value} {x y : PV} {h : Heap} {c : Bool} (hp : cInt f x y = some c) (ha : Rel O h x a) (hb' : Rel O h y b) : ∃ i j t u, f i j = c ∧ a = .int i t ∧ b = .int j u := by
 replace hp := bnd hp
 obtain ⟨i, hi, hp⟩ := hp
 replace hp := mpd hp
 obtain ⟨j, hj, hp⟩ := hp
 rw [PV.int_of hi] at ha
 rw [PV.int_of hj] at hb'
 refine cps fun PP kk => ?_
 obtain ⟨t, ee1⟩ := ha; obtain ⟨u, ee2⟩ := hb'
 refine kk ?_
 clear kk PP
 subst ee1
 subst ee2
 exact ⟨i, j, t, u, hp, rfl, rfl⟩
theorem cStr_inv {f : List Nat → List Nat → Bool} {a b : Value} {x y : PV} {h : Heap} {c : Bool} (hp : cStr f x y = some c) (ha : Rel O h x a) (hb' : Rel O h y b) : ∃ i j t u, f i j = c ∧ a = .str ⟨i.toArray⟩ t ∧ b = .str ⟨j.toArray⟩ u := by
 replace hp := bnd hp
 obtain ⟨i, hi, hp⟩ := hp
 replace hp := mpd hp
 obtain ⟨j, hj, hp⟩ := hp
 rw [PV.str_of hi] at ha
 rw [PV.str_of hj] at hb'
 refine cps fun PP kk => ?_
 obtain ⟨t, ee1⟩ := ha; obtain ⟨u, ee2⟩ := hb'
 refine kk ?_
 clear kk PP
 subst ee1
 subst ee2
 exact ⟨i, j, t, u, hp, rfl, rfl⟩
theorem ev_lt {x y : PV} {a b : Value} {c : Bool} (h : (if x.int?.isSome then cInt (fun a b => decide (a < b)) x y else cStr ltS x y) = some c) (ha : Rel O s.heap x a) (hb : Rel O s.heap y b) : Ev0 prog w A O (compareOp .Lt a b) (.bool c) s := by
 rcases ito h with h | h
 ·refine cps fun PP kk => ?_
  obtain ⟨i, j, t, u, ee1, ee2, ee3⟩ := cInt_inv h.2 ha hb
  refine kk ?_
  clear kk PP
  subst ee1
  subst ee2
  subst ee3
  exact P.lt_int (ev_bool _ s O)
 ·refine cps fun PP kk => ?_
  obtain ⟨i, j, t, u, ee4, ee5, ee6⟩ := cStr_inv h.2 ha hb
  refine kk ?_
  clear kk PP
  subst ee4
  subst ee5
  subst ee6
  rw [← lt_eq_ltS]
  exact P.lt_str (ev_bool _ s O)
theorem ev_le {x y : PV} {a b : Value} {c : Bool} (h : (if x.int?.isSome then cInt (fun a b => decide (a ≤ b)) x y else cStr leS x y) = some c) (ha : Rel O s.heap x a) (hb : Rel O s.heap y b) : Ev0 prog w A O (compareOp .LtE a b) (.bool c) s := by
 rcases ito h with h | h
 ·refine cps fun PP kk => ?_
  obtain ⟨i, j, t, u, ee1, ee2, ee3⟩ := cInt_inv h.2 ha hb
  refine kk ?_
  clear kk PP
  subst ee1
  subst ee2
  subst ee3
  exact P.le_int (ev_bool _ s O)
 ·refine cps fun PP kk => ?_
  obtain ⟨i, j, t, u, ee4, ee5, ee6⟩ := cStr_inv h.2 ha hb
  refine kk ?_
  clear kk PP
  subst ee4
  subst ee5
  subst ee6
  unfold leS
  rw [← lt_eq_ltS]
  exact P.le_str (ev_bool _ s O)
theorem same_inv {x y : PV} {a b : Value} {c : Bool} (h : isSame x y = some c) (ha : Rel O s.heap x a) (hb : Rel O s.heap y b) : (plainIs a b = true ∧ c = (a == b)) := by
 rcases ito h with ⟨hn, h⟩ | ⟨hn, h⟩
 ·cases hx : x.isNone with
  | true =>
   rw [PV.none_of hx] at ha
   obtain rfl := ha
   cases hy : y.isNone with
   | true =>
    rw [PV.none_of hy] at hb
    obtain rfl := hb
    rw [hx, hy] at h; (obtain rfl := oi h; clear h); exact ⟨rfl, rfl⟩
   | false =>
    obtain ⟨h1, _, h2, _⟩ := rel_plain hb (PV.none_not hy)
    rw [hx, hy] at h; (obtain rfl := oi h; clear h); exact ⟨h1, h2.symm⟩
  | false =>
   rw [hx] at hn h
   rw [PV.none_of hn] at hb
   obtain rfl := hb
   obtain ⟨_, h1, _, h2⟩ := rel_plain ha (PV.none_not hx)
   (obtain rfl := oi h; clear h); exact ⟨h1, h2.symm⟩
 ·replace h := bnd h
  obtain ⟨i, hi, h⟩ := h
  replace h := mpd h
  obtain ⟨j, hj, rfl⟩ := h
  rw [PV.bool_of hi] at ha
  rw [PV.bool_of hj] at hb
  obtain rfl := ha; obtain rfl := hb
  exact ⟨rfl, (beq_vbool i j).symm⟩
theorem ev_in {x y : PV} {a b : Value} {c : Bool} (h : inP x y = some c) (ha : Rel O s.heap x a) (hb : Rel O s.heap y b) : Ev0 prog w A O (compareOp .In a b) (.bool c) s ∧ Ev0 prog w A O (compareOp .NotIn a b) (.bool (!c)) s := by
 cases y with
 | str m =>
  replace h := mpd h
  obtain ⟨i, hi, rfl⟩ := h
  rw [PV.str_of hi] at ha
  refine cps fun PP kk => ?_
  obtain ⟨t, ee1⟩ := ha; obtain ⟨u, ee2⟩ := hb
  refine kk ?_
  clear kk PP
  subst ee1
  subst ee2
  exact ⟨P.in_str (by rw [in_text]; exact ev_bool _ s O), P.notIn_str (by rw [in_text]; exact ev_bool _ s O)⟩
 | _ => exact nope h
theorem ev_cmp {x y : PV} {a b : Value} {op : CmpOp} {c : Bool} (hu : A.units < cLine) (h : cmpP op x y = some c) (ha : Rel O s.heap x a) (hb : Rel O s.heap y b) : Ev0 prog w A O (compareOp op a b) (.bool c) s := by
 cases op with
 | Eq => exact (ev_eq hu h ha hb).1 prog w _ _ (ev_bool c s O)
 | NotEq =>
  replace h := mpd h
  obtain ⟨c', h', rfl⟩ := h
  exact (ev_eq hu h' ha hb).2 prog w _ _ (ev_bool _ s O)
 | Lt => exact ev_lt h ha hb
 | LtE => exact ev_le h ha hb
 | Gt =>
  refine cps fun PP kk => ?_
  obtain ⟨i, j, t, u, ee1, ee2, ee3⟩ := cInt_inv h ha hb
  refine kk ?_
  clear kk PP
  subst ee1
  subst ee2
  subst ee3
  exact P.gt_int (ev_bool _ s O)
 | GtE =>
  refine cps fun PP kk => ?_
  obtain ⟨i, j, t, u, ee4, ee5, ee6⟩ := cInt_inv h ha hb
  refine kk ?_
  clear kk PP
  subst ee4
  subst ee5
  subst ee6
  exact P.ge_int (ev_bool _ s O)
 | Is =>
  obtain ⟨h1, rfl⟩ := same_inv h ha hb
  exact wpAny_is_plain h1 (ev_bool _ s O)
 | IsNot =>
  replace h := mpd h
  obtain ⟨c', h', rfl⟩ := h
  obtain ⟨h1, rfl⟩ := same_inv h' ha hb
  exact wpAny_isNot_plain h1 (ev_bool _ s O)
 | In => exact (ev_in h ha hb).1
 | NotIn =>
  replace h := mpd h
  obtain ⟨c', h', rfl⟩ := h
  exact (ev_in h' ha hb).2
theorem s_bin {l r : Expr} {op : Operator} {x y : PV} (hb : Alive O s.heap) (h1 : Ev prog w A O (eval l env) x s) (h2 : ∀ s', Kp s s' → Ev prog w A O (eval r env) y s') (hp : binP op x y = some p) :
  Ev prog w A O (eval (.BinOp l op r pos) env) p s :=
 wpAny_BinOp (h1.use fun a s₁ k₁ r₁ => (h2 s₁ k₁).use fun b s₂ k₂ r₂ => (ev_binop (hb.above (k₁.trans k₂).above) (r₁.above k₂.above) r₂ hp).use fun v s₃ k₃ r₃ => ⟨(k₁.trans k₂).trans k₃, r₃⟩)
theorem s_cmp {l r : Expr} {op : CmpOp} {x y : PV} {c : Bool} (hu : A.units < cLine) (hm : behindInMarks op r = false) (h1 : Ev prog w A O (eval l env) x s) (h2 : ∀ s', Kp s s' → Ev prog w A O (eval r env) y s')
  (hp : cmpP op x y = some c) : Ev prog w A O (eval (.Compare l [op] [r] pos) env) (.bool c) s :=
 wpAny_Compare1 (h1.use fun a s₁ k₁ r₁ => (h2 s₁ k₁).use fun b s₂ k₂ r₂ => (ev_cmp hu hp (r₁.above k₂.above) r₂).use fun v s₃ k₃ r₃ => ⟨(k₁.trans k₂).trans k₃, r₃⟩) hm
theorem t_cmp {l r : Expr} {op : CmpOp} {x y : PV} {c : Bool} {whole : Sem Value} (hu : A.units < cLine) (hm : behindInMarks op r = false) (h1 : Ev prog w A O (eval l env) x s) (h2 : ∀ s', Kp s s' → Ev prog w A O (eval r env) y s')
  (hp : cmpP op x y = some c) : EvB prog w A (isTrue (.Compare l [op] [r] pos) env whole) c s :=
 wpAny_isTrue_Compare1 (h1.use fun a s₁ k₁ r₁ => (h2 s₁ k₁).use fun b s₂ k₂ r₂ => (ev_cmp hu hp (r₁.above k₂.above) r₂).use fun v s₃ k₃ r₃ => by
  obtain rfl := r₃
  exact wpAny_truthy_bool ⟨(k₁.trans k₂).trans k₃, rfl⟩) hm
theorem s_neg {e : Expr} {i : Int} (h : Ev prog w A O (eval e env) (.int i) s) : Ev prog w A O (eval (.UnaryOp .USub e pos) env) (.int (-i)) s := by
 show wpAny _ _ _ _ _ _
 rw [arm_eval_UnaryOp]
 refine wpAny_bind (h.use fun v s₁ k₁ r₁ => wpAny_bind (wpAny_standAt (wpAny_holding ?_)))
 obtain ⟨t, rfl⟩ := r₁
 exact neg_int ⟨k₁.trans (Kp.tick _), rel_int _ _ _⟩
theorem s_not {e : Expr} {x : PV} {b : Bool} (h : Ev prog w A O (eval e env) x s) (ht : x.truth = some b) : Ev prog w A O (eval (.UnaryOp .Not e pos) env) (.bool (!b)) s := by
 show wpAny _ _ _ _ _ _
 rw [arm_eval_UnaryOp]
 exact wpAny_bind (h.use fun v s₁ k₁ r₁ => wpAny_bind (wpAny_standAt (wpAny_holding (not_of ((ev_truthy r₁ ht).use fun s₂ k₂ => ⟨k₁.trans k₂, rfl⟩)))))
theorem t_not {e : Expr} {b : Bool} {whole : Sem Value} (h : EvB prog w A (isTrue e env (eval e env)) b s) : EvB prog w A (isTrue (.UnaryOp .Not e pos) env whole) (!b) s := by
 show wpAny _ _ _ _ _ _
 rw [arm_isTrue_UnaryOp]
 exact wpAny_bind (h.use fun s₁ k₁ => wpAny_pure ⟨k₁, rfl⟩)
theorem s_ite {c a b : Expr} {t : Bool} (h : EvB prog w A (isTrue c env (eval c env)) t s) (h1 : ∀ s', Kp s s' → Ev prog w A O (eval (if t then a else b) env) p s') : Ev prog w A O (eval (.IfExp c a b pos) env) p s := by
 show wpAny _ _ _ _ _ _
 rw [arm_eval_IfExp]
 refine wpAny_bind (h.use fun s₁ k₁ => ?_)
 cases t with
 | true => simp only [if_true] at h1 ⊢; exact (h1 s₁ k₁).use fun v s₂ k₂ r₂ => ⟨k₁.trans k₂, r₂⟩
 | false => simp only [Bool.false_eq_true, if_false] at h1 ⊢; exact (h1 s₁ k₁).use fun v s₂ k₂ r₂ => ⟨k₁.trans k₂, r₂⟩
theorem t_ite {c a b : Expr} {t r : Bool} {whole : Sem Value} (h : EvB prog w A (isTrue c env (eval c env)) t s) (h1 : ∀ s', Kp s s' → EvB prog w A (isTrue (if t then a else b) env (eval (if t then a else b) env)) r s') : EvB prog w A (isTrue (.IfExp c a b pos) env whole) r s := by
 show wpAny _ _ _ _ _ _
 rw [arm_isTrue_IfExp]
 refine wpAny_bind (h.use fun s₁ k₁ => ?_)
 cases t with
 | true => simp only [if_true] at h1 ⊢; exact (h1 s₁ k₁).use fun s₂ k₂ => ⟨k₁.trans k₂, rfl⟩
 | false => simp only [Bool.false_eq_true, if_false] at h1 ⊢; exact (h1 s₁ k₁).use fun s₂ k₂ => ⟨k₁.trans k₂, rfl⟩
theorem s_bool {op : BoolOp} {t₁ t₂ : Sem Value} {r : List (Sem Value)} {x : PV} {b : Bool} (h : Ev prog w A O t₁ x s) (ht : x.truth = some b)
  (hr : if (match op with | .And => b | .Or => !b) = true then ∀ s', Kp s s' → Ev prog w A O (boolOp pos op (t₂ :: r)) p s' else p = x) : Ev prog w A O (boolOp pos op (t₁ :: t₂ :: r)) p s := by
 show wpAny _ _ (t₁ >>= fun v => standAt pos >>= fun z1 => holding [v] (truthy v) >>= fun t => _) _ _ _
 refine wpAny_bind (h.use fun v s₁ k₁ r₁ => wpAny_bind (wpAny_standAt (wpAny_bind (wpAny_holding ((ev_truthy r₁ ht).use fun s₂ k₂ => ?_)))))
 cases op <;> cases b <;> simp only [if_true, Bool.false_eq_true, if_false, Bool.not_true, Bool.not_false] at hr
 ·subst hr; exact wpAny_pure ⟨k₁.trans k₂, r₁.above k₂.above⟩
 ·exact (hr s₂ (k₁.trans k₂)).use fun v s₃ k₃ r₃ => ⟨(k₁.trans k₂).trans k₃, r₃⟩
 ·exact (hr s₂ (k₁.trans k₂)).use fun v s₃ k₃ r₃ => ⟨(k₁.trans k₂).trans k₃, r₃⟩
 ·subst hr; exact wpAny_pure ⟨k₁.trans k₂, r₁.above k₂.above⟩
theorem t_bool {op : BoolOp} {e : Expr} {r : List Expr} {b c : Bool} (h : EvB prog w A (isTrue e env (eval e env)) b s)
  (hr : if (match op with | .And => b | .Or => !b) = true then ∀ s', Kp s s' → EvB prog w A (allTrue op r env) c s' else c = b) : EvB prog w A (allTrue op (e :: r) env) c s := by
 show wpAny _ _ _ _ _ _
 rw [arm_allTrue_cons]
 refine wpAny_bind (h.use fun s₁ k₁ => ?_)
 cases op <;> cases b <;> simp only [if_true, Bool.false_eq_true, if_false, Bool.not_true, Bool.not_false] at hr
 ·subst hr; exact wpAny_pure ⟨k₁, rfl⟩
 ·exact (hr s₁ k₁).use fun s₂ k₂ => ⟨k₁.trans k₂, rfl⟩
 ·exact (hr s₁ k₁).use fun s₂ k₂ => ⟨k₁.trans k₂, rfl⟩
 ·subst hr; exact wpAny_pure ⟨k₁, rfl⟩
theorem t_plain {e : Expr} {whole : Sem Value} {b : Bool} (h : Ev prog w A O whole p s) (ht : p.truth = some b) (he : isTrue e env whole = (do let v ← whole; standAt e.pos; holding [v] (truthy v))) :
  EvB prog w A (isTrue e env whole) b s :=
 isTrue_plain (h.use fun v s₁ k₁ r₁ => (ev_truthy r₁ ht).use fun s₂ k₂ => ⟨k₁.trans k₂, rfl⟩) he
end
end Rs.Internal
end
section
set_option tactic.hygienic false
set_option backward.match.sparseCases false
open PySem PySem.Calls PyProof.Rows PySem.SeqAt PySem.Builtin.Str
namespace Rs.Internal
theorem place_seq {n : Nat} {i : Int} {k : Nat} (h : place n i = some k) : seqIndex? i n = some k ∧ k < n := by
 unfold place at h
 split at h
 ·split at h
  ·(obtain rfl := oi h; clear h); exact ⟨StrLaws.seqIndex_nonneg ‹_› ‹_›, by lia⟩
  ·exact nope h
 ·split at h
  ·(obtain rfl := oi h; clear h); exact ⟨StrLaws.seqIndex_neg (by lia) ‹_›, by lia⟩
  ·exact nope h
noncomputable def rawEnd (n : Nat) (d : Nat) : Option Int → Int
 | none => d
 | some i => max 0 (min (if i < 0 then i + n else i) n)
theorem rawEnd_clip (n d : Nat) (o : Option Int) : rawEnd n d o = (match o with | some i => (clip n i : Int) | none => (d : Int)) := by
 cases o with
 | none => rfl
 | some i =>
  show max 0 (min (if i < 0 then i + (n : Int) else i) (n : Int)) = ((clip n i : Nat) : Int)
  unfold clip
  split
  ·rw [Int.min_eq_left (by lia), Int.ofNat_toNat, Int.max_comm]
  ·rw [Int.max_eq_right (by lia)]; lia
theorem range_pick {α : Type} (l : List α) (a b : Nat) (hb : b ≤ l.length) : (sliceRange (a : Int) (b : Int) 1).filterMap (l[·]?) = (l.take b).drop a := by
 unfold sliceRange
 simp only [show ((1 : Int) > 0) = True from by simp, if_true]
 by_cases h : (a : Int) < b
 ·have e3 : (((b : Int) - a + 1 - 1) / 1).toNat = b - a := by lia
  simp only [h, if_true, e3]
  have e : (fun (k : Nat) => ((a : Int) + 1 * (k : Int)).toNat) = fun k => a + k := by funext k; lia
  rw [e, StrLaws.picks l (b - a) a (by lia), List.drop_take]
 ·simp only [h, if_false]
  rw [List.drop_eq_nil_of_le (by simp; lia)]
  rfl
theorem clip_le (n : Nat) (i : Int) : clip n i ≤ n := by unfold clip; split <;> lia
theorem hiC_le (n : Nat) (o : Option Int) : hiC n o ≤ n := by
 cases o with
 | none => exact Nat.le_refl _
 | some i => exact clip_le n i
theorem slice_ix (lo hi : Option Int) (n : Nat) : strSliceIndices lo hi 1 n = sliceRange (loC n lo : Int) (hiC n hi : Int) 1 := by
 have e1 := rawEnd_clip n 0 lo
 have e2 := rawEnd_clip n n hi
 cases lo <;> cases hi <;> (simp only [loC, hiC] at *; rw [← e1, ← e2]; rfl)
theorem cut_text (x : List Nat) (lo hi : Option Int) : (strSliceIndices lo hi 1 (⟨x.toArray⟩ : Str).length).filterMap ((⟨x.toArray⟩ : Str).cps[·]?) = cutL x lo hi := by
 rw [str_len, slice_ix]
 have := range_pick x (loC x.length lo) (hiC x.length hi) (hiC_le _ _)
 unfold cutL
 rw [← this]
 simp
theorem range_len (a b : Nat) : (sliceRange (a : Int) (b : Int) 1).length = b - a := by
 unfold sliceRange
 simp only [show ((1 : Int) > 0) = True from by simp, if_true, List.length_map, List.length_range]
 by_cases h : (a : Int) < b
 ·simp only [h, if_true]; lia
 ·simp only [h, if_false]; lia
theorem cut_whole (x : List Nat) (lo hi : Option Int) (h : (strSliceIndices lo hi 1 (⟨x.toArray⟩ : Str).length).length = x.length) : cutL x lo hi = x := by
 rw [str_len, slice_ix, range_len] at h
 have h1 := hiC_le x.length hi
 unfold cutL
 have h2 : x.length = 0 ∨ (hiC x.length hi = x.length ∧ loC x.length lo = 0) := by lia
 rcases h2 with h2 | ⟨h2, h3⟩
 ·rw [List.length_eq_zero_iff.mp h2]; simp
 ·rw [h2, h3]; simp
theorem bounds_ix (lo hi : Option Int) (n : Nat) : sliceBounds lo hi none n = ((loC n lo : Int), (hiC n hi : Int), 1) := by
 have e1 := rawEnd_clip n 0 lo
 have e2 := rawEnd_clip n n hi
 cases lo <;> cases hi <;> (simp only [loC, hiC] at *; rw [← e1, ← e2]; rfl)
theorem cut_list {α : Type} (x : List α) (lo hi : Option Int) : (sliceRange (loC x.length lo : Int) (hiC x.length hi : Int) 1).filterMap (x[·]?) = cutL x lo hi := range_pick x _ _ (hiC_le _ _)
theorem place_inv {n k : Nat} {i : Int} (h : place n i = some k) : (0 ≤ i ∧ k = i.toNat) ∨ ((i < 0 ∧ -(n : Int) ≤ i) ∧ k = (i + n).toNat) := by
 unfold place at h
 split at h
 ·exact .inl ⟨‹_›, (Option.some.inj (itp h).2).symm⟩
 ·exact .inr ⟨⟨by lia, (itp h).1⟩, (Option.some.inj (itp h).2).symm⟩
section
variable {prog : Program} {w : World} {A : Around} {s : Shared} {O : List Addr} {env : Env} {pos : Pos} {t : Sem Value} {p : PV}
theorem item_list {l : List PV} {vs : List Value} {a : Addr} {i : Int} {u : Tok} (hs : small i = true) (h : (place l.length i).bind (l[·]?) = some p) (hl : IsLst s.heap a vs) (hx : RelL O s.heap l vs) : Ev0 prog w A O (getItem (.ref a) (.int i u)) p s := by
 obtain ⟨k, hk, hc⟩ := bnd h
 replace hs := small_iff hs
 obtain ⟨v, hv, hr⟩ := hx.get hc
 have hn := hx.length
 clear hc h hx
 rcases place_inv hk with ⟨h0, h1⟩ | ⟨h0, h1⟩
 ·exact wpAny_getItem_list hl.isList h0 (by lia) (by subst h1; simpa using hv) ⟨Kp0.refl s, hr⟩
 ·refine wpAny_getItem_list_neg hl.isList (by lia) (by simp; lia) (by lia) (x := v) ?_ ⟨Kp0.refl s, hr⟩
  subst h1
  rw [hn] at hv
  simpa using hv
theorem ev_item {x y : PV} {a b : Value} {K : String → Prop} (h : idxP x y = some p) (ha : Rel O s.heap x a) (hb : Rel O s.heap y b) :
  ∃ T id, s.TypeIs a T ∧ typeLookup (.type T) "__getitem__" = pure (some (.builtin id)) ∧ Ev0 prog w A O (getItem a b) p s := by
 obtain ⟨i, hi, h⟩ := bnd h
 rw [PV.int_of hi] at hb
 obtain ⟨u, rfl⟩ := hb
 cases x with
 | str x =>
  obtain ⟨t, rfl⟩ := ha
  obtain ⟨hs, h⟩ := its h
  ·obtain ⟨c, h', rfl⟩ := mpd h
   obtain ⟨k, hk, hc⟩ := bnd h'
   clear h h'
   have hs := small_iff hs
   refine ⟨"str", "str.__getitem__", typeIs_str _ _ _, F.slot_str_getitem.lookup, P.getItem_str (c := c) ?_ ?_ ⟨Kp0.toks s _, rel_str' _ _ rfl⟩⟩
   ·simp; lia
   ·rw [str_len, (place_seq hk).1]; simpa using hc
 | lst l =>
  refine cps fun PP kk => ?_
  obtain ⟨a, vs, ee1, _, hl, hx⟩ := ha
  refine kk ?_
  clear kk PP
  subst ee1
  obtain ⟨hs, h⟩ := its h
  exact ⟨"list", "list.__getitem__", hl.isList.typeIs, slot_list_getitem.lookup, item_list hs h hl hx⟩
 | tup l =>
  refine cps fun PP kk => ?_
  obtain ⟨a, vs, ee2, _, hl, hx⟩ := ha
  refine kk ?_
  clear kk PP
  subst ee2
  obtain ⟨hs, h⟩ := its h
  ·obtain ⟨k, hk, hc⟩ := bnd h
   clear h
   have hs := small_iff hs
   obtain ⟨v, hv, hr⟩ := hx.get hc
   refine ⟨"tuple", "tuple.__getitem__", hl.isTup.typeIs, slot_tuple_getitem.lookup, getItem_tuple (j := k) hl.isTup (by lia) (by lia) ?_ (by simpa using hv) ⟨Kp0.refl s, hr⟩⟩
   have := (place_seq hk).1
   rw [hx.length] at this
   simpa using this
 | _ => exact nope h
noncomputable def notCut : Expr → Bool
 | .Slice z1 z2 none z3 => false
 | z1 => true
theorem subscripted_at {e : Expr} (h : notCut e = true) (o i : Value) : subscripted e false o i = operate [o, i] (getItem o i) := by
 cases e with
 | Slice z1 z2 st z3 => cases st with
  | none => exact absurd h Bool.false_ne_true
  | some z1 => rfl
 | _ => rfl
theorem s_idx {e i : Expr} {x y : PV} (hc : notCut i = true) (h1 : Ev prog w A O (eval e env) x s) (h2 : ∀ s', Kp s s' → Ev prog w A O (eval i env) y s') (hp : idxP x y = some p) :
  Ev prog w A O (eval (.Subscript e i pos) env) p s :=
 Subscript_ (h1.use fun a s₁ k₁ r₁ => (h2 s₁ k₁).use fun b s₂ k₂ r₂ => by
  refine cps fun PP kk => ?_
  obtain ⟨T, id, hT, hl, hg⟩ := ev_item (prog := prog) (w := w) (A := A) (K := fun z1 => True) hp (r₁.above k₂.above) r₂
  refine kk ?_
  clear kk PP
  exact tail_any hT hl (hg.use fun v s₃ k₃ r₃ => ⟨(k₁.trans k₂).trans k₃, r₃⟩) (subscripted_at hc _ _))
theorem end_part {y : PV} {v : Value} {o : Option Int} (h : end? y = some o) (hr : Rel O s.heap y v) : ∃ q : Option (Int × Tok), v = partValue q ∧ q.map (·.1) = o ∧ IsPart v o := by
 cases y with
 | none => obtain rfl := oi h; obtain rfl := hr; exact ⟨none, rfl, rfl, .none⟩
 | int i =>
  replace h := (its h).2
  obtain rfl := oi h; obtain ⟨t, rfl⟩ := hr; exact ⟨some (_, t), rfl, rfl, .int _ _⟩
 | _ => exact nope h
set_option tactic.hygienic true in
theorem s_slc {e : Expr} {lo hi : Option Expr} {lp : Pos} {x y z : PV} (hb : Alive O s.heap) (h1 : Ev prog w A O (eval e env) x s) (h2 : ∀ s', Kp s s' → Ev prog w A O (evalPart lo env) y s') (h3 : ∀ s', Kp s s' → Ev prog w A O (evalPart hi env) z s')
  (hp : slcP x y z = some p) : Ev prog w A O (eval (.Subscript e (.Slice lo hi none lp) pos) env) p s :=
 Subscript_ (h1.use fun a s₁ k₁ r₁ => wpAny_Slice ((h2 s₁ k₁).use fun b s₂ k₂ r₂ => (h3 s₂ (k₁.trans k₂)).use fun c s₃ k₃ r₃ => wpAny_pure (by
  have k := (k₁.trans k₂).trans k₃
  replace hp := bnd hp
  obtain ⟨lo', hlo, hp⟩ := hp
  replace hp := bnd hp
  obtain ⟨hi', hhi, hp⟩ := hp
  refine cps fun PP kk => ?_
  obtain ⟨q, e1, e2, e3⟩ := end_part hlo (r₂.above k₃.above)
  refine kk ?_
  clear kk PP
  refine cps fun PP kk => ?_
  obtain ⟨q', e1', e2', e3'⟩ := end_part hhi r₃
  refine kk ?_
  clear kk PP
  replace r₁ := r₁.above (k₂.trans k₃).above
  replace hb := hb.above k.above
  have kp : Kp s { s₃ with heap := s₃.heap.push { cls := .type "slice", data := .fields #[b, c, Value.none] } } := k.trans (Kp.push _ _)
  refine Rs.Internal.up kp ?_
  cases x with
  | str xs =>
   obtain ⟨t, rfl⟩ := r₁
   replace hp := its hp
   obtain ⟨hf, hp⟩ := hp
   ·obtain rfl := oi hp
    replace hf := fitL_iff hf
    refine tail_any (T := "str") (typeIs_str _ _ _) F.slot_str_getitem.lookup (wpAny_getItem_str_slice (l := q) (u := q') (st := none) ⟨_, Heap.get?_push_size _ rfl, rfl, by rw [e1, e1']; rfl⟩ rfl ?_) (by rfl)
    have e := cut_text xs lo' hi'
    unfold sliceMade slicePicked
    rw [e2, e2']
    split
    ·rename_i hw
     have hw : (strSliceIndices lo' hi' 1 (⟨xs.toArray⟩ : Str).length).length = xs.length := by
      have := hw
      simp only [Bool.and_eq_true, beq_iff_eq] at this
      rw [str_len] at this
      rw [str_len]
      exact this.2
     refine ⟨Kp0.refl _, rel_str' _ _ ?_⟩
     rw [cut_whole xs lo' hi' hw]
    ·refine ⟨fit_line ?_, Kp0.toks _ _, rel_str' _ _ ?_⟩
     ·show (List.filterMap _ _).toArray.size ≤ _
      have : (cutL xs lo' hi').length ≤ xs.length := by unfold cutL; simp; lia
      rw [← e] at this
      simp only [List.size_toArray]
      exact Nat.le_trans this (by lia)
     ·exact e
  | lst xs =>
   refine cps fun PP kk => ?_
   obtain ⟨a, vs, ee1, ha, hl, hx⟩ := r₁
   refine kk ?_
   clear kk PP
   subst ee1
   replace hp := its hp
   obtain ⟨hf, hp⟩ := hp
   ·obtain rfl := oi hp
    replace hf := fitL_iff hf
    have hn := hx.length
    refine tail_any (T := "list") (hl.above (Above.push _ _)).isList.typeIs slot_list_getitem.lookup (wpAny_getItem_list_slice (lo := lo') (hi := hi') (st := none) (hl.above (Above.push _ _)).isList (Heap.IsSliceOf.new _ _ _ _) e3 e3' .none (by simp) ?_ (fit_line (by simp; lia))) (by rfl)
    have e : slicePick vs.toArray lo' hi' none = (cutL vs lo' hi').toArray := by
     unfold slicePick
     rw [List.size_toArray, bounds_ix]
     have := cut_list vs lo' hi'
     rw [← this]
     simp
    rw [e]
    have hk : Above s₃.heap (s₃.heap.push { cls := .type "slice", data := .fields #[b, c, Value.none] }) := Above.push _ _
    refine ⟨Kp0.push _ _, rel_new_lst (hb.above hk).bd ?_⟩
    unfold cutL
    rw [hn]
    exact ((hx.above hk).take _).drop _
  | _ => exact nope hp)))
end
end Rs.Internal
end
section
set_option tactic.hygienic false
open PySem PySem.Calls PyProof.Rows PySem.SeqAt PySem.Builtin.Str
namespace Rs.Internal
noncomputable def notStar : Expr → Bool
 | .Starred .. => false
 | z1 => true
theorem starEach_cons {e : Expr} (h : notStar e = true) (r : List Expr) (env : Env) : starEach (e :: r) env = (false, eval e env) :: starEach r env := by
 cases e <;> first | rfl | exact absurd h Bool.false_ne_true
section
variable {prog : Program} {w : World} {A : Around} {s : Shared} {O : List Addr} {env : Env} {pos : Pos} {t : Sem Value} {p : PV}
noncomputable def EvAll (prog : Program) (w : World) (A : Around) (O : List Addr) (env : Env) : List Expr → List PV → Shared → Prop
 | [], ps, z1 => ps = []
 | e :: r, ps, s => ∃ p q, ps = p :: q ∧ notStar e = true ∧ (∀ s', Kp s s' → Ev prog w A O (eval e env) p s') ∧ EvAll prog w A O env r q s
theorem EvAll.later : ∀ {es : List Expr} {ps : List PV} {s s' : Shared}, EvAll prog w A O env es ps s → Kp s s' → EvAll prog w A O env es ps s'
 | [], z1, z2, z3, h, z4 => h
 | z1 :: z2, z3, z4, z5, hh, k => by
  obtain ⟨p, q, e, n, h, r⟩ := hh
  exact ⟨p, q, e, n, fun s'' k' => h s'' (k.trans k'), r.later k⟩
theorem EvAll.spliced : ∀ {es : List Expr} {ps : List PV} {s : Shared}, EvAll prog w A O env es ps s → EvL prog w A O (spliced (backTo pos (starEach es env))) ps s := by
 intro es
 induction es with
 | nil =>
  intro _ s h
  obtain rfl := (show _ = [] from h)
  exact spliced_nil ⟨Kp.refl s, rfl⟩
 | cons e r ih__ =>
  rintro _ s ⟨p, q, rfl, n, h, hr⟩
  exact args_cons ((h s (Kp.refl s)).use fun v s₁ k₁ r₁ => (ih__ (hr.later k₁)).use fun vs s₂ k₂ r₂ => ⟨k₁.trans k₂, v, vs, rfl, r₁.above k₂.above, r₂⟩) (starEach_cons n r env)
theorem s_list {es : List Expr} {ps : List PV} (hb : Alive O s.heap) (h : EvAll prog w A O env es ps s) (hf : fitL ps.length = true) : Ev prog w A O (eval (.List es pos) env) (.lst ps) s := by
 show wpAny _ _ _ _ _ _
 rw [arm_eval_List]
 refine wpAny_bind (wpAny_standAt (wpAny_bind ((h.spliced (pos := pos)).use fun vs s₁ k₁ r₁ => wpAny_newList ⟨k₁.trans (Kp.push _ _), rel_new_lst (hb.above k₁.above).bd r₁⟩ (fit_line ?_))))
 have := fitL_iff hf; have := r₁.length; lia
theorem s_tup {es : List Expr} {k : Nat} {ps : List PV} (hb : Alive O s.heap) (h : EvAll prog w A O env es ps s) (hf : fitL ps.length = true) : Ev prog w A O (eval (.Tuple es k pos) env) (.tup ps) s := by
 show wpAny _ _ _ _ _ _
 rw [arm_eval_Tuple]
 refine wpAny_bind (wpAny_standAt (wpAny_bind ((h.spliced (pos := pos)).use fun vs s₁ k₁ r₁ => wpAny_newTuple ⟨k₁.trans (Kp.push _ _), rel_new_tup (hb.above k₁.above).bd r₁⟩ (fit_line ?_))))
 have := fitL_iff hf; have := r₁.length; lia
structure BuiltinName (env : Env) (mg mb : Str → Option Value) (x : Str) (v : Value) : Prop where
 kind : env.scope.kind = .function
 name : env.kindOf x = some .globalImplicit
 gl : env.globals = mainGlobals
 bi : env.builtins = builtinsNs
 free : mg x = none
 val : mb x = some v
 dbg : (x == ("__debug__" : Str)) = false
theorem BuiltinName.load {mg mb : Str → Option Value} {x : Str} {v : Value} {Q : Value → Shared → Prop} {E : Value → Shared → Prop} (B : BuiltinName env mg mb x v) (hg : s.heap.Ns mainGlobals mg) (hb : s.heap.Ns builtinsNs mb)
  (h : Q v s) : wpAny (model prog w) A (eval (.Name x pos) env) Q E s :=
 Name_function_global B.kind B.name (loadGlobal_builtin (B.gl ▸ hg) B.free (B.bi ▸ hb) B.val h) B.dbg
theorem s_call_builtin {mg mb : Str → Option Value} {x : Str} {id : String} {np : Pos} {e : Expr} {r : List Expr} {ps : List PV} (B : BuiltinName env mg mb x (.builtin id)) (hg : s.heap.Ns mainGlobals mg) (hb : s.heap.Ns builtinsNs mb)
  (h : EvAll prog w A O env (e :: r) ps s) (hp : (backTo pos (starEach r env)).any (·.1) = false)
  (hc : ∀ vs s', Kp s s' → RelL O s'.heap ps vs → Ev0 prog w A O (call (.builtin id) vs) p s') : Ev prog w A O (eval (.Call (.Name x np) (e :: r) [] pos) env) p s := by
 have hn : notStar e = true := by obtain ⟨_, _, _, n, _⟩ := h; exact n
 exact PyProof.Rows.Call_Name rfl (B.load hg hb (PyProof.Rows.callWith_builtin1 ((h.spliced (pos := pos)).use fun vs s₁ k₁ r₁ => (hc vs s₁ k₁ r₁).use fun v s₂ k₂ r₂ => ⟨k₁.trans k₂, r₂⟩) (starEach_cons hn r env) hp))
theorem s_call_type {mg mb : Str → Option Value} {x : Str} {T : String} {np : Pos} {e : Expr} {r : List Expr} {ps : List PV} (B : BuiltinName env mg mb x (.type T)) (hg : s.heap.Ns mainGlobals mg) (hb : s.heap.Ns builtinsNs mb)
  (h : EvAll prog w A O env (e :: r) ps s) (hp : (backTo pos (starEach r env)).any (·.1) = false)
  (hc : ∀ vs s', Kp s s' → RelL O s'.heap ps vs → Ev0 prog w A O (call (.type T) vs) p s') : Ev prog w A O (eval (.Call (.Name x np) (e :: r) [] pos) env) p s := by
 have hn : notStar e = true := by obtain ⟨_, _, _, n, _⟩ := h; exact n
 exact PyProof.Rows.Call_Name rfl (B.load hg hb (PyProof.Rows.callWith_type1 ((h.spliced (pos := pos)).use fun vs s₁ k₁ r₁ => (hc vs s₁ k₁ r₁).use fun v s₂ k₂ r₂ => ⟨k₁.trans k₂, r₂⟩) (starEach_cons hn r env) hp))
theorem s_call_def {mg : Str → Option Value} {x : Str} {f : Addr} {o : Obj} {fd : FuncData} {np : Pos} {e : Expr} {r : List Expr} {ps : List PV} (hk : env.scope.kind = .function) (hx : env.kindOf x = some .globalImplicit) (hgl : env.globals = mainGlobals)
  (hg : s.heap.Ns mainGlobals mg) (hv : mg x = some (.ref f)) (hd : (x == ("__debug__" : Str)) = false) (ho : s.heap.get? f = some o) (hod : o.data = .func fd)
  (h : EvAll prog w A O env (e :: r) ps s) (hc : ∀ vs s', Kp s s' → RelL O s'.heap ps vs → Ev0 prog w A O (call (.ref f) vs) p s') : Ev prog w A O (eval (.Call (.Name x np) (e :: r) [] pos) env) p s := by
 have hn : notStar e = true := by obtain ⟨_, _, _, n, _⟩ := h; exact n
 exact PyProof.Rows.Call_Name rfl (Name_function_global hk hx (loadGlobal_global (hgl ▸ hg) hv (PyProof.Rows.callWith_def hod ((h.spliced (pos := pos)).use fun vs s₁ k₁ r₁ => ⟨k₁.above _ _ ho, (hc vs s₁ k₁ r₁).use fun v s₂ k₂ r₂ => ⟨k₁.trans k₂, r₂⟩⟩) (starEach_cons hn r env))) hd)
theorem EvAll.plain : ∀ {es : List Expr} {ps : List PV} {s : Shared}, EvAll prog w A O env es ps s → (backTo pos (starEach es env)).any (·.1) = false := by
 intro es
 induction es with
 | nil =>
  intro _ _ _
  exact rfl
 | cons e r ih__ =>
  intro _ s hh
  obtain ⟨p, q, _, n, _, hr⟩ := hh
  rw [starEach_cons n]
  show (false || (backTo pos (starEach r env)).any (·.1)) = false
  rw [ih__ hr]; rfl
theorem rel1 {x : PV} {vs : List Value} (h : RelL O s.heap [x] vs) : ∃ v, vs = [v] ∧ Rel O s.heap x v := by
 refine cps fun PP kk => ?_
 obtain ⟨v, r, ee1, hv, hr⟩ := h
 refine kk ?_
 clear kk PP
 subst ee1
 obtain rfl := (show _ = [] from hr)
 exact ⟨v, rfl, hv⟩
theorem rel2 {x y : PV} {vs : List Value} (h : RelL O s.heap [x, y] vs) : ∃ v u, vs = [v, u] ∧ Rel O s.heap x v ∧ Rel O s.heap y u := by
 refine cps fun PP kk => ?_
 obtain ⟨v, r, ee1, hv, hr⟩ := h
 refine kk ?_
 clear kk PP
 subst ee1
 obtain ⟨u, rfl, hu⟩ := rel1 hr
 exact ⟨v, u, rfl, hv, hu⟩
theorem rel3 {x y z : PV} {vs : List Value} (h : RelL O s.heap [x, y, z] vs) : ∃ v u t, vs = [v, u, t] ∧ Rel O s.heap x v ∧ Rel O s.heap y u ∧ Rel O s.heap z t := by
 refine cps fun PP kk => ?_
 obtain ⟨v, r, ee1, hv, hr⟩ := h
 refine kk ?_
 clear kk PP
 subst ee1
 refine cps fun PP kk => ?_
 obtain ⟨u, t, ee2, hu, ht⟩ := rel2 hr
 refine kk ?_
 clear kk PP
 subst ee2
 exact ⟨v, u, t, rfl, hv, hu, ht⟩
theorem len_list {l : List PV} {vs : List Value} {a : Addr} (hf : fitL l.length = true) (hl : IsLst s.heap a vs) (hx : RelL O s.heap l vs) : Ev0 prog w A O (call (.builtin "len") [.ref a]) (.int l.length) s := by
 replace hf := fitL_iff hf
 have hn := hx.length
 rw [hn] at hf ⊢
 refine call_len_list hl.isList (by simp; lia) ⟨Kp0.toks s _, ?_⟩
 rw [List.size_toArray]; exact rel_int _ _ _
theorem b_len {xs : List PV} {vs : List Value} (h : lenP xs = some p) (hr : RelL O s.heap xs vs) : Ev0 prog w A O (call (.builtin "len") vs) p s := by
 replace h := bnd h
 obtain ⟨y, hy, h⟩ := h
 rw [one_of hy] at hr
 cases y with
 | str x =>
  refine cps fun PP kk => ?_
  obtain ⟨v, ee1, ⟨t, ee2⟩⟩ := rel1 hr
  refine kk ?_
  clear kk PP
  subst ee1
  subst ee2
  replace h := its h
  obtain ⟨hf, h⟩ := h
  ·replace hf := fitL_iff hf
   obtain rfl := oi h
   refine P.len_str (by rw [str_len]; lia) ⟨Kp0.toks s _, ?_⟩
   rw [str_len]; exact rel_int _ _ _
 | lst l =>
  refine cps fun PP kk => ?_
  obtain ⟨v, ee3, ⟨a, vs, ee4, _, hl, hx⟩⟩ := rel1 hr
  refine kk ?_
  clear kk PP
  subst ee3
  subst ee4
  replace h := its h
  obtain ⟨hf, h⟩ := h
  obtain rfl := oi h
  exact len_list hf hl hx
 | _ => exact nope h
theorem b_chr {xs : List PV} {vs : List Value} (h : chrP xs = some p) (hr : RelL O s.heap xs vs) : Ev0 prog w A O (call (.builtin "chr") vs) p s := by
 replace h := bnd h
 obtain ⟨y, hy, h⟩ := h
 replace h := bnd h
 obtain ⟨i, hi, h⟩ := h
 rw [one_of hy, PV.int_of hi] at hr
 clear hy hi
 ·refine cps fun PP kk => ?_
  obtain ⟨v, ee1, ⟨t, ee2⟩⟩ := rel1 hr
  refine kk ?_
  clear kk PP
  subst ee1
  subst ee2
  replace h := its h
  obtain ⟨hf, h⟩ := h
  ·simp only [Bool.and_eq_true, decide_eq_true_eq] at hf
   obtain rfl := oi h
   exact P.chr_of_int (by simp; lia) ⟨Kp0.toks s _, rel_str' _ _ rfl⟩
theorem b_ord {xs : List PV} {vs : List Value} (h : ordP xs = some p) (hr : RelL O s.heap xs vs) : Ev0 prog w A O (call (.builtin "ord") vs) p s := by
 replace h := bnd h
 obtain ⟨y, hy, h⟩ := h
 replace h := bnd h
 obtain ⟨x, hx, h⟩ := h
 replace h := mpd h
 obtain ⟨c, hc, h⟩ := h
 rw [one_of hy, PV.str_of hx, chr1_of hc] at hr
 obtain ⟨v, rfl, ⟨t, rfl⟩⟩ := rel1 hr
 cases h; exact P.ord_of_char ⟨Kp0.toks s _, rel_int _ _ _⟩
theorem rel_rng (hb : Alive O s.heap) (a b c : Int) (t u v : Tok) (k : Nat) : Kp0 s { s with heap := s.heap.push { cls := .type "range", data := .fields #[.int a t, .int b u, .int c v] }, toks := k } ∧
   Rel O (s.heap.push { cls := .type "range", data := .fields #[.int a t, .int b u, .int c v] }) (.rng a b c) (.ref s.heap.objs.size) :=
 ⟨Kp0.of s (Above.push _ _), _, t, u, v, rfl, hb.bd.notin, IsRange.new _ _ _ _ _ _ _⟩
theorem b_range1 {xs : List PV} {vs : List Value} (hb : Alive O s.heap) (h : range1P xs = some p) (hr : RelL O s.heap xs vs) : Ev0 prog w A O (call (.type "range") vs) p s := by
 replace h := bnd h
 obtain ⟨y, hy, h⟩ := h
 replace h := bnd h
 obtain ⟨i, hi, h⟩ := h
 rw [one_of hy, PV.int_of hi] at hr
 refine cps fun PP kk => ?_
 obtain ⟨v, ee1, ⟨t, ee2⟩⟩ := rel1 hr
 refine kk ?_
 clear kk PP
 subst ee1
 subst ee2
 replace h := its h
 obtain ⟨_, h⟩ := h
 (obtain rfl := oi h; clear h); exact call_range_1 (rel_rng hb _ _ _ _ _ _ _)
theorem b_range2 {xs : List PV} {vs : List Value} (hb : Alive O s.heap) (h : range2P xs = some p) (hr : RelL O s.heap xs vs) : Ev0 prog w A O (call (.type "range") vs) p s := by
 replace h := bnd h
 obtain ⟨⟨y, z⟩, hy, h⟩ := h
 replace h := bnd h
 obtain ⟨i, hi, h⟩ := h
 replace h := bnd h
 obtain ⟨j, hj, h⟩ := h
 obtain rfl := PV.int_of hi
 obtain rfl := PV.int_of hj
 rw [two_of hy] at hr
 obtain ⟨v, u, rfl, ⟨t, rfl⟩, ⟨t', rfl⟩⟩ := rel2 hr
 replace h := its h
 obtain ⟨_, h⟩ := h
 (obtain rfl := oi h; clear h); exact call_range_2 (rel_rng hb _ _ _ _ _ _ _)
theorem b_range3 {xs : List PV} {vs : List Value} (hb : Alive O s.heap) (h : range3P xs = some p) (hr : RelL O s.heap xs vs) : Ev0 prog w A O (call (.type "range") vs) p s := by
 replace h := bnd h
 refine cps fun PP kk => ?_
 obtain ⟨⟨y, z, x⟩, hy, h⟩ := h
 refine kk ?_
 clear kk PP
 replace h := bnd h
 obtain ⟨i, hi, h⟩ := h
 replace h := bnd h
 obtain ⟨j, hj, h⟩ := h
 replace h := bnd h
 obtain ⟨k, hk, h⟩ := h
 obtain rfl := PV.int_of hi
 obtain rfl := PV.int_of hj
 obtain rfl := PV.int_of hk
 rw [three_of hy] at hr
 clear hy hi hj hk
 ·refine cps fun PP kk => ?_
  obtain ⟨v, u, z, ee1, ⟨t, ee2⟩, ⟨t', ee3⟩, ⟨t'', ee4⟩⟩ := rel3 hr
  refine kk ?_
  clear kk PP
  subst ee1
  subst ee2
  subst ee3
  subst ee4
  replace h := its h
  obtain ⟨hf, h⟩ := h
  ·simp only [Bool.and_eq_true, decide_eq_true_eq] at hf
   have h3 := small_iff hf.1.2
   (obtain rfl := oi h; clear h); exact call_range_3 (by lia) (rel_rng hb _ _ _ _ _ _ _) (.inl (PyProof.noPylong_small (by lia)))
theorem range_small {lo hi st : Int} (h1 : small lo = true) (h2 : small hi = true) (h3 : small st = true) (h4 : 0 < st) :
  Builtin.Range.small lo hi st = true ∧ Builtin.Range.rangeSize lo hi st = (rcount lo hi st : Int) := by
 replace h1 := small_iff h1
 replace h2 := small_iff h2
 replace h3 := small_iff h3
 have e : Builtin.Range.rangeSize lo hi st = (rcount lo hi st : Int) := by
  unfold Builtin.Range.rangeSize rcount
  rw [if_pos (by lia : st > 0)]
  by_cases hs : st = 1
  ·subst hs
   rw [if_pos rfl, Int.ediv_one]
   split <;> lia
  ·rw [if_neg hs]
   split
   ·have : 0 ≤ (hi - lo - 1) / st := Int.ediv_nonneg (by lia) (by lia)
    lia
   ·rfl
 refine ⟨?_, e⟩
 have hle : (rcount lo hi st : Int) ≤ 2147483648 := by
  unfold rcount
  by_cases hs : st = 1
  ·rw [if_pos hs]; lia
  ·rw [if_neg hs]
   split
   ·have : (hi - lo - 1) / st ≤ hi - lo - 1 := Int.ediv_le_self _ (by lia)
    lia
   ·lia
 unfold Builtin.Range.small Builtin.Range.rangeFitsLong
 rw [e]
 simp only [Bool.and_eq_true, Bool.or_eq_true, decide_eq_true_eq, beq_iff_eq]
 refine ⟨⟨⟨⟨⟨by lia, by lia⟩, by lia, by lia⟩, by lia, by lia⟩, by lia, by lia⟩, .inr ?_⟩
 rw [if_pos (by lia)]
 simp only [Bool.and_eq_true, decide_eq_true_eq]
 lia
theorem relL_of_get {O : List Addr} {h : Heap} : ∀ {l : List PV} {vs : List Value}, l.length = vs.length → (∀ (i : Nat) (p : PV) (v : Value), l[i]? = some p → vs[i]? = some v → Rel O h p v) → RelL O h l vs
 | [], [], z1, z2 => rfl
 | p :: l, v :: vs, e, hx => ⟨v, vs, rfl, hx 0 p v rfl rfl, relL_of_get (by simpa using e) fun i q u hq hu => hx (i + 1) q u (by simpa using hq) (by simpa using hu)⟩
 | [], z1 :: z2, e, z3 => by simp at e
 | z1 :: z2, [], e, z3 => by simp at e
theorem b_listOf {xs : List PV} {vs : List Value} (hh : A.handled = none) (hb : Alive O s.heap) (h : listOfP xs = some p) (hr : RelL O s.heap xs vs) : Ev0 prog w A O (call (.type "list") vs) p s := by
 replace h := bnd h
 obtain ⟨y, hy, h⟩ := h
 rw [one_of hy] at hr
 cases y with
 | rng lo hi st =>
  refine cps fun PP kk => ?_
  obtain ⟨v, ee1, ⟨a, t1, t2, t3, ee2, _, hrg⟩⟩ := rel1 hr
  refine kk ?_
  clear kk PP
  subst ee1
  subst ee2
  replace h := its h
  obtain ⟨hf, h⟩ := h
  ·simp only [Bool.and_eq_true, decide_eq_true_eq] at hf
   refine cps fun PP kk => ?_
   obtain ⟨⟨⟨⟨h1, h2⟩, h3⟩, h4⟩, h5⟩ := hf
   refine kk ?_
   clear kk PP
   replace h5 := fitL_iff h5
   obtain ⟨r1, r2⟩ := range_small h1 h2 h3 h4
   obtain rfl := oi h
   refine call_list_range hh hrg r1 r2 (by lia) fun h' tk acc' c' hk hl hi => ⟨Kp0.of s hk, _, acc'.toList, rfl, hb.bd.notin, ⟨c', by simpa using hl⟩, ?_⟩
   refine relL_of_get (by unfold rangeL; simp; exact hi.1.symm) fun i q u hq hu => ?_
   obtain ⟨t, rfl⟩ := hi.2 i u (by simpa using hu)
   unfold rangeL at hq
   rw [List.getElem?_map, Option.map_eq_some_iff] at hq
   obtain ⟨k, hk', rfl⟩ := hq
   have : k = i := by
    rw [List.getElem?_range (by
     have := List.getElem?_eq_some_iff.mp hk'
     simpa using this.1)] at hk'
    exact (Option.some.inj hk').symm
   subst this
   rw [Int.mul_comm]
   exact rel_int _ _ _
 | _ => exact nope h
theorem preSum_eq (is : List Int) : ∀ n, n ≤ is.length → preSum (fun i => is.getD i 0) n = (is.take n).sum := by
 intro n
 induction n with
 | zero =>
  intro _
  exact rfl
 | succ n ih__ =>
  intro h
  rw [preSum, ih__ (by lia)]
  have : is.take (n + 1) = is.take n ++ [is.getD n 0] := by
   rw [List.take_add_one, List.getD_eq_getElem?_getD, List.getElem?_eq_getElem (by lia)]; rfl
  rw [this, List.sum_append]; simp
theorem ints_get {O : List Addr} {h : Heap} : ∀ {l : List PV} {vs : List Value} {is : List Int}, ints? l = some is → RelL O h l vs → vs.length = is.length ∧ ∀ (i : Nat) (v : Value), vs[i]? = some v → ∃ t, v = .int (is.getD i 0) t
 | [], z1, is, hi, x => by
  obtain rfl := (show _ = [] from x); (obtain rfl := oi hi; clear hi); exact ⟨rfl, fun i v hv => by simp at hv⟩
 | p :: l, vs, is, hi, x => by
  replace hi := bnd hi
  obtain ⟨k, hp, hi⟩ := hi
  obtain rfl := PV.int_of hp
  refine cps fun PP kk => ?_
  obtain ⟨v, r, ee1, ⟨t, ee2⟩, hr⟩ := x
  refine kk ?_
  clear kk PP
  subst ee1
  subst ee2
  replace hi := mpd hi
  obtain ⟨is', hi, rfl⟩ := hi
  obtain ⟨h1, h2⟩ := ints_get hi hr
  refine ⟨by simp [h1], fun i v hv => ?_⟩
  cases i with
  | zero => simp at hv; subst hv; exact ⟨t, rfl⟩
  | succ i => simpa using h2 i v (by simpa using hv)
theorem b_sum {xs : List PV} {vs : List Value} (hh : A.handled = none) (h : sum1P xs = some p) (hr : RelL O s.heap xs vs) : Ev0 prog w A O (call (.builtin "sum") vs) p s := by
 replace h := bnd h
 obtain ⟨y, hy, h⟩ := h
 replace h := bnd h
 obtain ⟨l, hll, h⟩ := h
 replace h := bnd h
 obtain ⟨is, hi, h⟩ := h
 rw [one_of hy, PV.lst_of hll] at hr
 clear hy hll
 ·obtain ⟨v, rfl, ⟨a, vs, rfl, _, hl, hx⟩⟩ := rel1 hr
  replace h := its h
  obtain ⟨hf, h⟩ := h
  ·replace hf := fitL_iff hf
   obtain rfl := oi h
   obtain ⟨g1, g2⟩ := ints_get hi hx
   have hsz : (s.heap.push { cls := .type "list_iterator", data := .fields #[.ref a, .int 0 0] }).objs.size = s.heap.objs.size + 1 := Heap.size_push ..
   refine call_sum_walkAnyS (wpAny_pyIter_list hl.isList ?_)
   replace lt := hl.lt
   refine ⟨_, [_, a], [_], _, _, _, _, fun i => is.getD i 0, rfl, (Walks.list (A := A.in1) hh s.heap.objs.size a (Nat.ne_of_lt lt) vs.toArray).toS, ⟨⟨_, Heap.get?_push_size _ rfl, rfl, rfl⟩, (hl.above (Above.push _ _)).isList⟩, fun b hb => ?_, fun i v hv => g2 i v (by simpa using hv), fun s' t' hm => ?_⟩
   ·show b < (s.heap.push _).objs.size
    rw [hsz]
    simp only [List.mem_cons, List.not_mem_nil, or_false] at hb
    rcases hb with rfl | rfl
    ·exact Nat.lt_succ_self _
    ·exact Nat.lt_succ_of_lt lt
   ·have e : preSum (fun i => is.getD i 0) vs.toArray.size = is.sum := by
     rw [List.size_toArray, g1, preSum_eq is _ (Nat.le_refl _), List.take_length]
    rw [e]
    refine ⟨?_, rel_int _ _ _⟩
    have hk : Above s.heap s'.heap := fun b o e => hm.heap b o (by simp; exact Nat.ne_of_lt (Heap.lt_size e)) (Heap.get?_push_of_some _ e)
    have e1 := hm.gens
    have e2 := hm.drawn
    have e3 := hm.os
    obtain ⟨hp, g, d, tk, os⟩ := s'
    cases e1; cases e2; cases e3
    exact Kp0.of s hk
theorem b_min2 {xs : List PV} {vs : List Value} (hh : A.handled = none) (h : min2P xs = some p) (hr : RelL O s.heap xs vs) : Ev0 prog w A O (call (.builtin "min") vs) p s := by
 replace h := bnd h
 refine cps fun PP kk => ?_
 obtain ⟨⟨x, y⟩, hy, h⟩ := h
 refine kk ?_
 clear kk PP
 rw [two_of hy] at hr
 clear hy
 cases x with
 | int i =>
  replace h := mpd h
  obtain ⟨j, hj, h⟩ := h
  rw [PV.int_of (x := y) hj] at hr
  refine cps fun PP kk => ?_
  obtain ⟨v, u, ee1, ⟨t, ee2⟩, ⟨t', ee3⟩⟩ := rel2 hr
  refine kk ?_
  clear kk PP
  subst ee1
  subst ee2
  subst ee3
  cases h
  refine min_two_ints hh fun h' tk hk => ⟨Kp0.of s hk, ?_⟩
  split <;> exact rel_int _ _ _
 | _ => exact nope h
end
end Rs.Internal
end
section
set_option tactic.hygienic false
open PySem PySem.Calls PyProof.Rows PySem.Builtin PySem.Builtin.Str PySem.StrLaws
namespace Rs.Internal
noncomputable abbrev tx (x : List Nat) : Str := ⟨x.toArray⟩
noncomputable def occI (s w : Str) (hi : Nat) : Nat → Nat → Nat → List Nat
 | 0, z1, z2 => []
 | n + 1, i, free => if (free ≤ i ∧ i + w.length ≤ hi) ∧ subAt s w i = true then i :: occI s w hi n (i + 1) (i + w.length) else occI s w hi n (i + 1) free
theorem occI_s {s w : Str} {hi n i free : Nat} : occI s w hi (n + 1) i free = if (free ≤ i ∧ i + w.length ≤ hi) ∧ subAt s w i = true then i :: occI s w hi n (i + 1) (i + w.length) else occI s w hi n (i + 1) free := rfl
theorem occI_eq (s w : Str) (hi limit : Nat) : ∀ (n i free : Nat) (found : Array Nat), found.size + n ≤ limit →
  (forIn (List.range' i n) (found, free) (occBody s w hi limit)).run.fst.toList = found.toList ++ occI s w hi n i free := by
 intro n
 induction n with
 | zero =>
  intro i free found h
  rw [show occI s w hi 0 i free = [] from rfl]; simp
 | succ n ih__ =>
  intro i free found h
  rw [List.range'_succ, List.forIn_cons]
  unfold occBody
  rw [occI_s]
  by_cases hc : (free ≤ i ∧ i + w.length ≤ hi) ∧ subAt s w i = true
  ·rw [if_pos hc, if_pos ⟨⟨⟨(by show found.size < limit; lia), hc.1.1⟩, hc.1.2⟩, hc.2⟩]
   show (forIn (List.range' (i + 1) n) (found.push i, i + w.length) (occBody s w hi limit)).run.fst.toList = _
   rw [ih__ (i + 1) _ _ (by rw [Array.size_push]; lia)]
   simp
  ·rw [if_neg hc, if_neg (fun x => hc ⟨⟨x.1.1.2, x.1.2⟩, x.2⟩)]
   show (forIn (List.range' (i + 1) n) (found, free) (occBody s w hi limit)).run.fst.toList = _
   exact ih__ (i + 1) _ _ (by lia)
theorem occ_all (s w : Str) : occurrences s w 0 s.length (s.length + 1) = occI s w s.length (s.length + 1) 0 0 := by
 rw [occ_eq, occI_eq _ _ _ _ _ _ _ _ (by simp)]; simp
theorem occI_skip (s w : Str) (hi : Nat) : ∀ (k n i free : Nat), i + k = free → occI s w hi (n + k) i free = occI s w hi n free free := by
 intro k
 induction k with
 | zero =>
  intro n i free h
  rw [show i = free by lia]; rfl
 | succ k ih__ =>
  intro n i free h
  rw [show n + (k + 1) = (n + k) + 1 by lia, occI_s, if_neg (fun x => by lia)]
  exact ih__ n (i + 1) free (by lia)
theorem occI_short (s w : Str) (hi : Nat) (hw : 1 ≤ w.length) : ∀ (n i free : Nat), hi ≤ free → occI s w hi n i free = [] := by
 intro n
 induction n with
 | zero =>
  intro _ _ _
  exact rfl
 | succ n ih__ =>
  intro i free h
  rw [occI_s, if_neg (fun x => by lia)]
  exact ih__ (i + 1) free h
theorem sub_prefix (x w : List Nat) (i : Nat) : (i + (tx w).length ≤ (tx x).length ∧ subAt (tx x) (tx w) i = true) ↔ (w <+: x.drop i ∧ i ≤ x.length ∨ (w = [] ∧ i ≤ x.length)) := by
 rw [subAt_eq, str_len, str_len]
 simp only [beq_iff_eq]
 constructor
 ·rintro ⟨h1, h2⟩
  exact .inl ⟨List.prefix_iff_eq_take.mpr (by simpa using h2.symm), by lia⟩
 ·rintro (⟨h, hi⟩ | ⟨rfl, hi⟩)
  ·have := h.length_le
   rw [List.length_drop] at this
   exact ⟨by lia, by simpa using (List.prefix_iff_eq_take.mp h).symm⟩
  ·exact ⟨by simpa using hi, by simp⟩
noncomputable def piecesL (x : List Nat) (w : Nat) : Nat → List Nat → List (List Nat)
 | a, [] => [x.drop a]
 | a, c :: cs => ((x.take c).drop a) :: piecesL x w (c + w) cs
theorem splitGo_eq (x w : List Nat) (hw : w ≠ []) : ∀ (n i a : Nat) (cur t : List Nat), t = x.drop i → cur.reverse = (x.take i).drop a → a ≤ i → i ≤ x.length → x.length + 1 ≤ i + n →
  splitGo w n cur t = piecesL x w.length a (occI (tx x) (tx w) x.length (x.length + 1 - i) i i) := by
 intro n
 induction n with
 | zero => intro i a cur t _ _ _ h1 h2; lia
 | succ n ih =>
  intro i a cur t ht hc ha hi hn
  have hwl : 1 ≤ w.length := by cases w with | nil => exact absurd rfl hw | cons z1 z2 => simp
  obtain ⟨m, hm⟩ : ∃ m, x.length + 1 - i = m + 1 := ⟨x.length - i, by lia⟩
  rw [hm, occI_s]
  have hsub := sub_prefix x w i
  have hlx : (tx x).length = x.length := str_len x
  rw [hlx] at hsub
  cases t with
  | nil =>
   have hx : x.length ≤ i := by
    have := congrArg List.length ht
    rw [List.length_drop] at this
    simp at this; lia
   rw [if_neg (fun y => by rw [str_len] at y; lia)]
   rw [occI_short _ _ _ (by rw [str_len]; exact hwl) _ _ _ hx]
   show [cur.reverse] = [x.drop a]
   rw [hc, List.take_of_length_le hx]
  | cons c r =>
   by_cases hp : List.isPrefixOf w (c :: r) = true
   ·rw [splitGo_t hp]
    have hp' : w <+: x.drop i := by rw [← ht]; exact List.isPrefixOf_iff_prefix.mp hp
    have hle := hp'.length_le
    rw [List.length_drop] at hle
    rw [if_pos ⟨⟨Nat.le_refl _, (hsub.mpr (.inl ⟨hp', hi⟩)).1⟩, (hsub.mpr (.inl ⟨hp', hi⟩)).2⟩]
    show cur.reverse :: _ = ((x.take i).drop a) :: _
    rw [hc]
    congr 1
    have e1 : m = (x.length + 1 - (i + w.length)) + (w.length - 1) := by lia
    rw [str_len, e1, occI_skip _ _ _ (w.length - 1) _ (i + 1) (i + w.length) (by lia)]
    refine ih (i + w.length) (i + w.length) [] _ ?_ ?_ (Nat.le_refl _) (by lia) (by lia)
    ·rw [ht, List.drop_drop, Nat.add_comm]
    ·rw [List.drop_eq_nil_of_le (by simp; lia)]; rfl
   ·rw [splitGo_f hp, if_neg (fun y => hp (List.isPrefixOf_iff_prefix.mpr (by
     rcases hsub.mp ⟨y.1.2, y.2⟩ with ⟨h, _⟩ | ⟨h, _⟩
     ·rw [ht]; exact h
     ·exact absurd h hw)))]
    have hlt : i < x.length := by
     have := congrArg List.length ht
     rw [List.length_drop] at this
     simp at this; lia
    have hxi : x.drop i = x[i] :: x.drop (i + 1) := List.drop_eq_getElem_cons hlt
    rw [hxi] at ht
    injection ht with h1 h2
    have e2 : m = x.length + 1 - (i + 1) := by lia
    have free_irrel : ∀ (k j f : Nat), f ≤ j → occI (tx x) (tx w) x.length k j f = occI (tx x) (tx w) x.length k j j := by
     intro k
     induction k with
     | zero => intros; rfl
     | succ k ihk =>
      intro j f hf
      rw [occI_s, occI_s]
      by_cases hq : (j ≤ j ∧ j + (tx w).length ≤ x.length) ∧ subAt (tx x) (tx w) j = true
      ·rw [if_pos hq, if_pos ⟨⟨hf, hq.1.2⟩, hq.2⟩]
      ·rw [if_neg hq, if_neg (fun y => hq ⟨⟨Nat.le_refl _, y.1.2⟩, y.2⟩), ihk (j + 1) f (by lia), ihk (j + 1) j (by lia)]
    rw [e2, free_irrel _ (i + 1) i (by lia)]
    refine ih (i + 1) a (c :: cur) r h2 ?_ (by lia) (by lia) (by lia)
    rw [List.reverse_cons, hc, h1, List.take_add_one, List.getElem?_eq_getElem hlt]
    rw [List.drop_append_of_le_length (by simp; lia)]
    rfl
theorem parts_eq (x : List Nat) (w : Nat) : ∀ (cs : List Nat) (a : Nat), ((a :: cs.map (· + w)).zip (cs ++ [(tx x).length])).map (fun (p : Nat × Nat) => (strSub (tx x) p.1 p.2).cps.toList) = piecesL x w a cs := by
 intro cs
 induction cs with
 | nil =>
  intro a
  rw [show piecesL x w a [] = [x.drop a] from rfl]
  simp only [List.map_nil, List.nil_append, List.zip_cons_cons, List.zip_nil_right, List.map_cons, strSub_toList, str_len]
  rw [List.take_of_length_le (by simp)]
 | cons c cs ih__ =>
  intro a
  rw [show piecesL x w a (c :: cs) = ((x.take c).drop a) :: piecesL x w (c + w) cs from rfl]
  simp only [List.map_cons, List.cons_append, List.zip_cons_cons, strSub_toList]
  congr 1
  ·rw [List.drop_take]
  ·have := ih__ (c + w)
   simp only [strSub_toList] at this
   exact this
theorem parts_text (x w : List Nat) (hw : w ≠ []) : (partsBetween (tx x) (occurrences (tx x) (tx w) 0 (tx x).length ((tx x).length + 1)) (tx w).length).map (·.cps.toList) = splitL x w := by
 unfold partsBetween splitL
 rw [splitGo_eq x w hw (x.length + 1) 0 0 [] x rfl rfl (Nat.le_refl _) (Nat.zero_le _) (by lia)]
 have hl : (tx x).length = x.length := str_len x
 rw [occ_all, List.map_map, hl, str_len w]
 have := parts_eq x w.length (occI (tx x) (tx w) x.length (x.length + 1) 0 0) 0
 rw [hl] at this
 rw [Nat.sub_zero, ← this]
 rfl
theorem piecesL_length (x : List Nat) (w : Nat) : ∀ (cs : List Nat) (a : Nat), (piecesL x w a cs).length = cs.length + 1 := by
 intro cs
 induction cs with
 | nil =>
  intro _
  exact rfl
 | cons z1 cs ih__ =>
  intro _
  exact congrArg (· + 1) (ih__ _)
theorem occ_count (x w : List Nat) (hw : w ≠ []) : (occurrences (tx x) (tx w) 0 (tx x).length ((tx x).length + 1)).length = countStr x w := by
 unfold countStr splitL
 rw [splitGo_eq x w hw (x.length + 1) 0 0 [] x rfl rfl (Nat.le_refl _) (Nat.zero_le _) (by lia), piecesL_length, occ_all]
 have hl : (tx x).length = x.length := str_len x
 rw [hl]; rfl
theorem kind_le {x w : List Nat} (h : ∀ c ∈ w, c ∈ x) : Str.strKind (tx w) ≤ Str.strKind (tx x) := by
 unfold Str.strKind
 have e1 : (tx x).cps.all (· < 256) = true → (tx w).cps.all (· < 256) = true := fun q => by
  simp only [List.all_toArray, List.all_eq_true] at q ⊢; exact fun c hc => q c (h c hc)
 have e2 : (tx x).cps.all (· < 65536) = true → (tx w).cps.all (· < 65536) = true := fun q => by
  simp only [List.all_toArray, List.all_eq_true] at q ⊢; exact fun c hc => q c (h c hc)
 revert e1 e2
 generalize (tx x).cps.all (· < 256) = a
 generalize (tx w).cps.all (· < 256) = b
 generalize (tx x).cps.all (· < 65536) = c
 generalize (tx w).cps.all (· < 65536) = d
 intro e1 e2
 cases a <;> cases b <;> cases c <;> cases d <;> first | decide | (exact absurd (e1 rfl) (by decide)) | (exact absurd (e2 rfl) (by decide))
set_option tactic.hygienic true in
theorem split_text (x w : List Nat) (hw : w ≠ []) : (Txt.split (tx x) (tx w)).map (·.cps.toList) = splitL x w := by
 have none_here : occurrences (tx x) (tx w) 0 (tx x).length ((tx x).length + 1) = [] → splitL x w = [x] := fun h => by
  rw [← parts_text x w hw, h]
  show [(strSub (tx x) 0 (tx x).length).cps.toList] = [x]
  rw [strSub_toList, str_len]
  simp
 unfold Txt.split
 split
 ·rename_i h
  refine (none_here ?_).symm
  cases ho : occurrences (tx x) (tx w) 0 (tx x).length ((tx x).length + 1) with
  | nil => rfl
  | cons i r =>
   exfalso
   have hh := occ_head (tx x) (tx w) ((tx x).length + 1) (by lia)
   rw [ho] at hh
   rcases hh with ⟨hh, _⟩ | ⟨j, _, _, ⟨h1, h2⟩, _⟩
   ·cases hh
   ·have h3 := (sub_prefix x w j).mp ⟨h1, h2⟩
    have hp : w <+: x.drop j := by
     rcases h3 with h3 | h3
     ·exact h3.1
     ·exact absurd h3.1 hw
    have hm : ∀ c ∈ w, c ∈ x := fun c hc => List.mem_of_mem_drop (hp.subset hc)
    have hk := kind_le hm
    have hl := hp.length_le
    rw [List.length_drop] at hl
    simp only [Bool.or_eq_true, decide_eq_true_eq, str_len] at h
    lia
 ·split
  ·rename_i h
   exact (none_here (List.isEmpty_iff.mp h)).symm
  ·exact parts_text x w hw
end Rs.Internal
end
section
set_option tactic.hygienic false
open PySem PySem.Calls PyProof.Rows PySem.SeqAt PySem.Builtin.Str
namespace Rs.Internal
section
variable {prog : Program} {w : World} {A : Around} {s : Shared} {O : List Addr} {env : Env} {pos : Pos} {t : Sem Value} {p : PV}
noncomputable def MethOk (prog : Program) (w : World) (A : Around) (O : List Addr) (name : Str) (ov : Value) (ps : List PV) (p : PV) (s : Shared) : Prop :=
 ∃ (T id : String), PlainAttrs T ∧ PySem.Slot T name id ∧ typeOf (.builtin id) = pure (.type "method_descriptor") ∧ s.TypeIs ov T ∧ (∀ a, ov = .ref a → ∃ ob, s.heap.get? a = some ob ∧ ob.dict = none) ∧
  ∀ vs s', Kp s s' → RelL O s'.heap ps vs → Ev0 prog w A O (call (.builtin id) (ov :: vs)) p s'
theorem EvAll.noStar : ∀ {es : List Expr} {ps : List PV} {s : Shared}, EvAll prog w A O env es ps s → (backTo pos (starEach es env)).all (fun x => !x.1) = true := by
 intro es
 induction es with
 | nil =>
  intro _ _ _
  exact rfl
 | cons e r ih__ =>
  intro _ s hh
  obtain ⟨p, q, _, n, _, hr⟩ := hh
  rw [starEach_cons n]
  show (true && (backTo pos (starEach r env)).all (fun x => !x.1)) = true
  rw [ih__ hr]; rfl
theorem base_eq {o : Expr} {name : Str} (h : baseOk o = true) (whole : Sem Value) : attributeBase o name env whole = whole := by
 cases o with
 | Call f args kws p =>
  cases f with
  | Name x q =>
   cases args with
   | nil => cases kws with
    | nil => exact absurd h Bool.false_ne_true
    | cons z1 z2 => rfl
   | cons z1 z2 => rfl
  | _ => rfl
 | _ => rfl
theorem EvAll.args {es : List Expr} {ps : List PV} {f : Value} {Q : Args → Shared → Prop} {E : Value → Shared → Prop} (h : EvAll prog w A O env es ps s) (hQ : ∀ vs s', Kp s s' → RelL O s'.heap ps vs → Q ⟨vs, []⟩ s') :
  wpAny (model prog w) A (evalArgs f true (backTo pos (starEach es env)) []) Q E s := by
 cases es with
 | nil =>
  obtain rfl := (show _ = [] from h)
  exact PyProof.Rows.evalArgs_nil3 (hQ [] s (Kp.refl s) rfl)
 | cons e r =>
  have hs := h.spliced (pos := pos)
  refine cps fun PP kk => ?_
  obtain ⟨_, _, _, n, _⟩ := h
  refine kk ?_
  clear kk PP
  rw [starEach_cons n] at hs ⊢
  exact Calls.evalArgs_plain (hs.use hQ)
theorem s_meth {o : Expr} {name : Str} {apos : Pos} {es : List Expr} {x : PV} {ps : List PV} (hbase : baseOk o = true) (hline : (apos.endLine == pos.line) = true) (hlen : es.length < 30)
  (h1 : Ev prog w A O (eval o env) x s) (h2 : EvAll prog w A O env es ps s) (hm : ∀ ov s', Kp s s' → Rel O s'.heap x ov → MethOk prog w A O name ov ps p s') :
  Ev prog w A O (eval (.Call (.Attribute o name apos) es [] pos) env) p s := by
 refine wpAny_Call_method_lateS (base_eq hbase _) ?_ hline (h1.use fun ov s₁ k₁ r₁ => ?_)
 ·rw [h2.noStar]
  show (true && true && decide (es.length + 0 + 0 < 30)) = true
  simp; lia
 ·refine cps fun PP kk => ?_
  obtain ⟨T, id, pa, sl, ty, hT, hd, hc⟩ := hm ov s₁ k₁ r₁
  refine kk ?_
  clear kk PP
  refine ⟨T, id, pa, sl, ty, hT, hd, ?_⟩
  refine Calls.callWith_builtin (first := [ov]) h2.plain ((h2.later k₁).args fun vs s₂ k₂ r₂ => ?_)
  exact (hc vs s₂ k₂ r₂).use fun v s₃ k₃ r₃ => ⟨(k₁.trans k₂).trans k₃, r₃⟩
theorem rel0 {vs : List Value} (h : RelL O s.heap [] vs) : vs = [] := h
theorem strM {name : Str} {id : String} {x : Str} {t : Tok} {ps : List PV} (sl : PySem.Slot "str" name id) (ty : typeOf (.builtin id) = pure (.type "method_descriptor"))
  (h : ∀ vs s', Kp s s' → RelL O s'.heap ps vs → Ev0 prog w A O (call (.builtin id) (.str x t :: vs)) p s') : MethOk prog w A O name (.str x t) ps p s :=
 ⟨"str", id, F.plainAttrs_str, sl, ty, typeIs_str _ _ _, (fun z1 e => nomatch e), h⟩
theorem m_lower {x : PV} {ps : List PV} {ov : Value} (h : lowerP x ps = some p) (hr : Rel O s.heap x ov) : MethOk prog w A O "lower" ov ps p s := by
 replace h := bnd h
 obtain ⟨x', hx, h⟩ := h
 replace h := its h
 obtain ⟨hf, h⟩ := h
 rw [PV.str_of hx] at hr
 rw [Bool.and_eq_true, List.isEmpty_iff] at hf
 rw [hf.1]
 ·obtain ⟨t, rfl⟩ := hr
  ·replace hf := fitL_iff hf.2
   obtain rfl := oi h
   refine strM F.slot_str_lower F.type_str_lower fun vs s' k r => ?_
   obtain rfl := rel0 r
   refine SC.lower ?_ ⟨Kp0.toks _ _, rel_str' _ _ rfl⟩
   unfold tooLong sizeLine
   refine decide_eq_false ?_
   have : (Txt.lower (tx x')).length = (lowerL x').length := by simp [lowerL, Str.length]
   rw [this]; lia
theorem starts_text (x y : List Nat) : Txt.startswith (tx x) (tx y) = List.isPrefixOf y x := by
 unfold Txt.startswith
 rw [Bool.eq_iff_iff, Bool.and_eq_true, decide_eq_true_eq, StrLaws.subAt_eq, List.isPrefixOf_iff_prefix, List.prefix_iff_eq_take]
 simp only [str_len, beq_iff_eq, List.drop_zero, Nat.zero_add]
 constructor
 ·rintro ⟨_, h⟩; exact (by simpa using h.symm)
 ·intro h
  refine ⟨?_, by simpa using h.symm⟩
  have := congrArg List.length h
  simp at this; lia
theorem ends_text (x y : List Nat) : Txt.endswith (tx x) (tx y) = List.isSuffixOf y x := by
 unfold Txt.endswith
 rw [Bool.eq_iff_iff, Bool.and_eq_true, decide_eq_true_eq, StrLaws.subAt_eq, List.isSuffixOf_iff_suffix, List.suffix_iff_eq_drop]
 simp only [str_len, beq_iff_eq, Nat.zero_add]
 constructor
 ·rintro ⟨h1, h⟩
  rw [List.take_of_length_le (by simp; lia)] at h
  simpa using h.symm
 ·intro h
  have hl : y.length ≤ x.length := by
   have := congrArg List.length h
   simp at this; lia
  refine ⟨hl, ?_⟩
  rw [List.take_of_length_le (by simp; lia)]
  simpa using h.symm
theorem m_starts {x : PV} {ps : List PV} {ov : Value} (h : startsP x ps = some p) (hr : Rel O s.heap x ov) : MethOk prog w A O "startswith" ov ps p s := by
 replace h := bnd h
 obtain ⟨x', hx, h⟩ := h
 replace h := bnd h
 obtain ⟨y', hy, h⟩ := h
 replace h := mpd h
 obtain ⟨z', hz, h⟩ := h
 rw [PV.str_of hx] at hr
 rw [one_of hy, PV.str_of hz]
 ·obtain ⟨t, rfl⟩ := hr
  cases h
  refine strM F.slot_str_startswith F.type_str_startswith fun vs s' k r => ?_
  refine cps fun PP kk => ?_
  obtain ⟨v, ee1, ⟨u, ee2⟩⟩ := rel1 r
  refine kk ?_
  clear kk PP
  subst ee1
  subst ee2
  exact SC.startswith (by rw [starts_text]; exact ev_bool _ _ _)
theorem m_ends {x : PV} {ps : List PV} {ov : Value} (h : endsP x ps = some p) (hr : Rel O s.heap x ov) : MethOk prog w A O "endswith" ov ps p s := by
 replace h := bnd h
 obtain ⟨x', hx, h⟩ := h
 replace h := bnd h
 obtain ⟨y', hy, h⟩ := h
 replace h := mpd h
 obtain ⟨z', hz, h⟩ := h
 rw [PV.str_of hx] at hr
 rw [one_of hy, PV.str_of hz]
 ·obtain ⟨t, rfl⟩ := hr
  cases h
  refine strM F.slot_str_endswith F.type_str_endswith fun vs s' k r => ?_
  refine cps fun PP kk => ?_
  obtain ⟨v, ee1, ⟨u, ee2⟩⟩ := rel1 r
  refine kk ?_
  clear kk PP
  subst ee1
  subst ee2
  exact SC.endswith (by rw [ends_text]; exact ev_bool _ _ _)
theorem strsFrom_rel {O : List Addr} {h : Heap} : ∀ (l : List Str) (k : Nat), RelL O h (l.map fun x => .str x.cps.toList) (strsFrom k l) := by
 intro l
 induction l with
 | nil =>
  intro _
  exact rfl
 | cons x r ih__ =>
  intro k
  exact ⟨_, _, rfl, rel_str' _ _ rfl, ih__ (k + 1)⟩
theorem one_text {O : List Addr} {h : Heap} {x : List Nat} {t : Tok} : RelL O h [.str x] [.str (tx x) t] := ⟨_, _, rfl, rel_str _ _ _, rfl⟩
theorem m_split {x : PV} {ps : List PV} {ov : Value} (hb : Alive O s.heap) (h : splitP x ps = some p) (hr : Rel O s.heap x ov) : MethOk prog w A O "split" ov ps p s := by
 replace h := bnd h
 obtain ⟨x, hx, h⟩ := h
 replace h := bnd h
 obtain ⟨y', hy, h⟩ := h
 replace h := bnd h
 obtain ⟨y, hz, h⟩ := h
 rw [PV.str_of hx] at hr
 rw [one_of hy, PV.str_of hz]
 clear hx hy hz
 ·obtain ⟨t, rfl⟩ := hr
  replace h := its h
  obtain ⟨hf, h⟩ := h
  ·rw [Bool.and_eq_true, Bool.not_eq_true', List.isEmpty_eq_false_iff] at hf
   have hl := fitL_iff hf.1
   obtain rfl := oi h
   refine strM F.slot_str_split F.type_str_split fun vs s' k r => ?_
   refine cps fun PP kk => ?_
   obtain ⟨v, ee1, ⟨u, ee2⟩⟩ := rel1 r
   refine kk ?_
   clear kk PP
   subst ee1
   subst ee2
   have hb' := (hb.above k.above).bd
   have hy : ((tx y).length == 0) = false := by rw [str_len]; cases y with | nil => exact absurd rfl hf.2 | cons z1 z2 => rfl
   have e := split_text x y hf.2
   have e2 : (splitL x y).map PV.str = (Txt.split (tx x) (tx y)).map fun z => .str z.cps.toList := by rw [← e, List.map_map]; rfl
   have alone : Txt.split (tx x) (tx y) = [tx x] → Rel O (s'.heap.push { cls := .type "list", data := .seq [Value.str (tx x) t].toArray }) (.lst ((splitL x y).map .str)) (.ref s'.heap.objs.size) := fun q => by
    rw [e2, q]
    exact rel_new_lst hb' one_text
   cases h1 : (decide ((tx x).length < (tx y).length) || decide (Builtin.Str.strKind (tx x) < Builtin.Str.strKind (tx y)))
   ·cases h2 : (occurrences (tx x) (tx y) 0 (tx x).length ((tx x).length + 1)).isEmpty
    ·have q : Txt.split (tx x) (tx y) = partsBetween (tx x) (occurrences (tx x) (tx y) 0 (tx x).length ((tx x).length + 1)) (tx y).length :=
      (if_neg (ne_true_of_eq_false h1)).trans (if_neg (ne_true_of_eq_false h2))
     have hn : (partsBetween (tx x) (occurrences (tx x) (tx y) 0 (tx x).length ((tx x).length + 1)) (tx y).length).length ≤ 1048578 := by
      have h3 := StrLaws.occ_length_le (tx x) (tx y) 0 (tx x).length ((tx x).length + 1)
      rw [str_len] at h3
      unfold partsBetween
      simp only [List.length_map, List.length_zip, List.length_cons, List.length_append, List.length_nil]
      rw [str_len]
      lia
     refine call_meets F.slot_str_split (typeIs_str _ _ _) F.entry_str_split (F.args_str_split_2 _ _) (meets_str_split_sep (tx x) (tx y) t u h1 hy h2 (fit_line (by rw [str_len]; lia)) (fit_line (by lia))) ?_
     refine ⟨Kp0.of s' (Above.push _ _), ?_⟩
     rw [e2, q]
     exact rel_new_lst hb' (strsFrom_rel _ _)
    ·refine call_meets F.slot_str_split (typeIs_str _ _ _) F.entry_str_split (F.args_str_split_2 _ _) (meets_str_split_not_found (tx x) (tx y) t u h1 hy h2) ?_
     exact ⟨Kp0.of s' (Above.push _ _), alone ((if_neg (ne_true_of_eq_false h1)).trans (if_pos h2))⟩
   ·refine call_meets F.slot_str_split (typeIs_str _ _ _) F.entry_str_split (F.args_str_split_2 _ _) (meets_str_split_cannot_occur (tx x) (tx y) t u h1) ?_
    exact ⟨Kp0.of s' (Above.push _ _), alone (if_pos h1)⟩
theorem m_count {x : PV} {ps : List PV} {ov : Value} (h : countP' x ps = some p) (hr : Rel O s.heap x ov) : MethOk prog w A O "count" ov ps p s := by
 replace h := bnd h
 obtain ⟨y', hy, h⟩ := h
 rw [one_of hy]
 cases x with
 | str x =>
  replace h := bnd h
  obtain ⟨z', hz, h⟩ := h
  rw [PV.str_of hz]
  obtain ⟨t, rfl⟩ := hr
  replace h := its h
  obtain ⟨hf, h⟩ := h
  ·rw [Bool.and_eq_true, Bool.not_eq_true', List.isEmpty_eq_false_iff] at hf
   obtain rfl := oi h
   refine strM F.slot_str_count F.type_str_count fun vs s' k r => ?_
   refine cps fun PP kk => ?_
   obtain ⟨v, ee1, ⟨u, ee2⟩⟩ := rel1 r
   refine kk ?_
   clear kk PP
   subst ee1
   subst ee2
   refine SC.count ⟨Kp0.toks _ _, ?_⟩
   unfold Txt.count
   rw [occ_count _ _ hf.2]
   exact rel_int _ _ _
 | _ => exact nope h
theorem findGo_spec (w : List Nat) : ∀ (n i : Nat) (t : List Nat), t.length + 1 ≤ n →
  (findGo w n i t = none ∧ ∀ k, k ≤ t.length → ¬ w <+: t.drop k) ∨ ∃ k, findGo w n i t = some (i + k) ∧ k ≤ t.length ∧ w <+: t.drop k ∧ ∀ m, m < k → ¬ w <+: t.drop m := by
 intro n
 induction n with
 | zero =>
  intro _ _ h
  lia
 | succ n ih__ =>
  intro i t h
  unfold findGo
  by_cases hp : List.isPrefixOf w t = true
  ·rw [if_pos hp]
   exact .inr ⟨0, rfl, Nat.zero_le _, by simpa using List.isPrefixOf_iff_prefix.mp hp, fun m hm => by lia⟩
  ·rw [if_neg hp]
   have h0 : ¬ w <+: t := fun x => hp (List.isPrefixOf_iff_prefix.mpr x)
   cases t with
   | nil =>
    refine .inl ⟨rfl, fun k hk => ?_⟩
    simpa using h0
   | cons c r =>
    rcases ih__ (i + 1) r (by simp at h; lia) with ⟨h1, h2⟩ | ⟨k, h1, h2, h3, h4⟩
    ·refine .inl ⟨h1, fun k hk => ?_⟩
     cases k with
     | zero => simpa using h0
     | succ k => simpa using h2 k (by simpa using hk)
    ·refine .inr ⟨k + 1, by show findGo w n (i + 1) r = _; rw [h1]; congr 1; lia, by simp; lia, by simpa using h3, fun m hm => ?_⟩
     cases m with
     | zero => simpa using h0
     | succ m => simpa using h4 m (by lia)
theorem at_iff (x y : List Nat) (i j k : Nat) (hij : i ≤ j) (hj : j ≤ x.length) (hk : i ≤ k) (hkj : k ≤ j) : StrLaws.At (tx x) (tx y) j k ↔ y <+: ((x.take j).drop i).drop (k - i) := by
 unfold StrLaws.At
 rw [StrLaws.subAt_eq, str_len, List.drop_drop, show i + (k - i) = k by lia, List.drop_take]
 simp only [beq_iff_eq]
 constructor
 ·rintro ⟨h1, h2⟩
  rw [List.prefix_iff_eq_take, List.take_take, Nat.min_eq_left (by lia)]
  simpa using h2.symm
 ·intro h
  have hl := h.length_le
  rw [List.length_take, List.length_drop] at hl
  refine ⟨by lia, ?_⟩
  rw [List.prefix_iff_eq_take, List.take_take, Nat.min_eq_left (by lia)] at h
  simpa using h.symm
theorem find_text (x y : List Nat) (i j : Nat) (hij : i ≤ j) (hj : j ≤ x.length) :
  (match occurrences (tx x) (tx y) i j 1 with | k :: z1 => (k : Int) | [] => -1) = findL x y i j := by
 rw [StrLaws.occ_eq]
 have hsp := findGo_spec y (x.length + 1) i ((x.take j).drop i) (by simp; lia)
 have hlen : ((x.take j).drop i).length = j - i := by simp; lia
 unfold findL
 rcases StrLaws.occ_first (tx x) (tx y) j 1 (Nat.le_refl _) (List.range' i (j + 1 - i)) i (fun k hk => (List.mem_range'_1.mp hk).1) with ⟨h0, hn⟩ | ⟨pre, a, post, e, h0, ha, hn⟩
 ·rw [h0]
  rcases hsp with ⟨h1, _⟩ | ⟨k, h1, h2, h3, _⟩
  ·rw [h1]
  ·exfalso
   rw [hlen] at h2
   refine hn (i + k) (List.mem_range'_1.mpr (by lia)) ((at_iff x y i j (i + k) hij hj (by lia) (by lia)).mpr ?_)
   rw [show i + k - i = k by lia]; exact h3
 ·have hm : a ∈ List.range' i (j + 1 - i) := by rw [e]; simp
  replace hm := List.mem_range'_1.mp hm
  have ha' := (at_iff x y i j a hij hj hm.1 (by lia)).mp ha
  obtain ⟨hlo, hsplit⟩ := StrLaws.range'_split_from e
  have hres : (forIn (List.range' i (j + 1 - i)) ((#[] : Array Nat), i) (StrLaws.occBody (tx x) (tx y) j 1)).run.fst.toList.head? = some a := by
   rw [← h0]; simp [Array.getElem?_toList, List.head?_eq_getElem?]
  generalize (forIn (List.range' i (j + 1 - i)) ((#[] : Array Nat), i) (StrLaws.occBody (tx x) (tx y) j 1)).run.fst.toList = l at hres
  cases l with
  | nil => simp at hres
  | cons b r =>
   simp at hres; subst hres
   rcases hsp with ⟨h1, h2⟩ | ⟨k, h1, h2, h3, h4⟩
   ·exact absurd ha' (h2 _ (by lia))
   ·rw [h1]
    rw [hlen] at h2
    have : b = i + k := by
     rcases Nat.lt_trichotomy b (i + k) with hlt | heq | hgt
     ·exact absurd ha' (h4 _ (by lia))
     ·exact heq
     ·exfalso
      refine hn (i + k) (hsplit _ (by lia) hgt) ((at_iff x y i j (i + k) hij hj (by lia) (by lia)).mpr ?_)
      rw [show i + k - i = k by lia]; exact h3
    rw [this]
theorem gives_find4 (x y : Str) (i j : Int) (t u v q : Tok) : Gives (Builtin.«str.find» ⟨[.str x t, .str y u, .int i v, .int j q], []⟩)
  (.int (match occurrences x y (fromIndex x.length i) (min (fromIndex x.length j) x.length) 1 with | k :: z1 => (k : Int) | [] => -1)) := by
 show Gives (match occurrences x y (fromIndex x.length i) (min (fromIndex x.length j) x.length) 1 with | k :: z1 => PySem.retInt k | [] => (do rule "str.find.not-found"; PySem.retInt (-1))) _
 cases occurrences x y (fromIndex x.length i) (min (fromIndex x.length j) x.length) 1 with
 | nil => exact .rule (.of_eq rfl)
 | cons k z1 => exact .of_eq rfl
theorem m_find4 {x : PV} {ps : List PV} {ov : Value} (h : find4P x ps = some p) (hr : Rel O s.heap x ov) : MethOk prog w A O "find" ov ps p s := by
 replace h := bnd h
 obtain ⟨x, hx, h⟩ := h
 replace h := bnd h
 refine cps fun PP kk => ?_
 obtain ⟨⟨y1, y2, y3⟩, hy, h⟩ := h
 refine kk ?_
 clear kk PP
 replace h := bnd h
 obtain ⟨y, h1, h⟩ := h
 replace h := bnd h
 obtain ⟨i, h2, h⟩ := h
 replace h := bnd h
 obtain ⟨j, h3, h⟩ := h
 obtain rfl := PV.str_of h1
 obtain rfl := PV.int_of h2
 obtain rfl := PV.int_of h3
 rw [PV.str_of hx] at hr
 rw [three_of hy]
 clear hx hy h1 h2 h3
 ·obtain ⟨t, rfl⟩ := hr
  replace h := its h
  obtain ⟨hf, h⟩ := h
  ·simp only [Bool.and_eq_true, decide_eq_true_eq] at hf
   refine cps fun PP kk => ?_
   obtain ⟨⟨⟨h1, h2⟩, h3⟩, h4⟩ := hf
   refine kk ?_
   clear kk PP
   obtain rfl := oi h
   refine strM F.slot_str_find F.type_str_find fun vs s' k r => ?_
   refine cps fun PP kk => ?_
   obtain ⟨v, u, z, ee1, ⟨t1, ee2⟩, ⟨t2, ee3⟩, ⟨t3, ee4⟩⟩ := rel3 r
   refine kk ?_
   clear kk PP
   subst ee1
   subst ee2
   subst ee3
   subst ee4
   refine call_gives F.slot_str_find (typeIs_str _ _ _) F.entry_str_find (F.args_str_find_4 _ _ _ _) (gives_find4 _ _ _ _ _ _ _ _) ⟨Kp0.toks _ _, ?_⟩
   have e1 : fromIndex (tx x).length i = i.toNat := by unfold fromIndex; rw [str_len, if_neg (by lia)]; lia
   have e2 : min (fromIndex (tx x).length j) (tx x).length = j.toNat := by unfold fromIndex; rw [str_len, if_neg (by lia)]; lia
   rw [e1, e2, find_text x y i.toNat j.toNat (by lia) (by lia)]
   exact rel_int _ _ _
theorem join_empty : ∀ l : List Str, (Str.join ⟨#[]⟩ l).cps.toList = (l.map (·.cps.toList)).flatten
 | [] => rfl
 | [x] => by simp [Str.join]
 | x :: y :: r => by
  have := join_empty (y :: r)
  show ((x ++ (⟨#[]⟩ : Str)) ++ Str.join ⟨#[]⟩ (y :: r)).cps.toList = _
  rw [Str.cps_append, Str.cps_append, Array.toList_append, this]
  simp
theorem strs_values {O : List Addr} {h : Heap} : ∀ {l : List PV} {vs : List Value} {ss : List (List Nat)}, strs? l = some ss → RelL O h l vs → ∃ q : List (Str × Tok), vs = strValues q ∧ q.map (·.1) = ss.map tx := by
 intro l
 induction l with
 | nil =>
  intro _ ss h x
  obtain rfl := (show _ = [] from x); (obtain rfl := oi h; clear h); exact ⟨[], rfl, rfl⟩
 | cons p l ih__ =>
  intro vs ss h x
  replace h := bnd h
  obtain ⟨i, hp, h⟩ := h
  obtain rfl := PV.str_of hp
  refine cps fun PP kk => ?_
  obtain ⟨v, r, ee1, ⟨t, ee2⟩, hr⟩ := x
  refine kk ?_
  clear kk PP
  subst ee1
  subst ee2
  replace h := mpd h
  obtain ⟨ss', h, rfl⟩ := h
  obtain ⟨q, rfl, e⟩ := ih__ h hr
  exact ⟨(tx i, t) :: q, rfl, by simp [e]⟩
theorem m_join {x : PV} {ps : List PV} {ov : Value} (h : joinP x ps = some p) (hr : Rel O s.heap x ov) : MethOk prog w A O "join" ov ps p s := by
 replace h := bnd h
 obtain ⟨x, hx, h⟩ := h
 replace h := bnd h
 obtain ⟨y', hy, h⟩ := h
 replace h := bnd h
 obtain ⟨l, hz, h⟩ := h
 replace h := bnd h
 obtain ⟨ss, hs, h⟩ := h
 rw [PV.str_of hx] at hr
 rw [one_of hy, PV.lst_of hz]
 clear hx hy hz
 ·obtain ⟨t, rfl⟩ := hr
  obtain ⟨hf, hq⟩ := its h
  ·simp only [Bool.and_eq_true, List.isEmpty_iff] at hf
   obtain ⟨⟨rfl, h1⟩, h2⟩ := hf
   replace h1 := fitL_iff h1
   obtain rfl := oi hq
   refine strM F.slot_str_join F.type_str_join fun vs s' k r => ?_
   refine cps fun PP kk => ?_
   obtain ⟨v, ee1, ⟨a, ws, ee2, _, hl, hx⟩⟩ := rel1 r
   refine kk ?_
   clear kk PP
   subst ee1
   subst ee2
   obtain ⟨q, rfl, e⟩ := strs_values hs hx
   have hfl : ((ss.map tx).map (·.cps.toList)).flatten = ss.flatten := by rw [List.map_map]; congr 1; exact (List.map_congr_left (fun x z1 => by simp)).trans (List.map_id _)
   refine SC.join hl.isList e ?_ fun t' k' => ⟨Kp0.toks _ _, rel_str' _ _ ?_⟩
   ·unfold JoinOk tooLong sizeLine
    rw [StrLaws.joinTotal]
    have e3 : ((ss.map tx).map (·.length)).sum = ss.flatten.length := by
     rw [List.length_flatten, List.map_map]
     congr 1
    rw [e3, str_len]
    refine (by rw [decide_eq_false]; rfl; simp only [List.length_nil, Nat.mul_zero, Nat.add_zero]; lia)
   ·unfold Txt.join
    rw [StrLaws.glued_eq_join]
    exact (join_empty _).trans hfl
end
end Rs.Internal
end
section
set_option tactic.hygienic false
open PySem PySem.Calls PyProof.Rows PySem.SeqAt PySem.Builtin.Str
namespace Rs.Internal
theorem nodup_idx {α : Type} {l : List α} (h : l.Nodup) {i j : Nat} {x : α} (hi : l[i]? = some x) (hj : l[j]? = some x) : i = j := by
  obtain ⟨h1, e1⟩ := List.getElem?_eq_some_iff.mp hi
  obtain ⟨h2, e2⟩ := List.getElem?_eq_some_iff.mp hj
  have := List.pairwise_iff_getElem.mp h
  rcases Nat.lt_trichotomy i j with q | q | q
  · exact absurd (e1.trans e2.symm) (this i j h1 h2 q)
  · exact q
  · exact absurd (e2.trans e1.symm) (this j i h2 h1 q)
theorem getS_set (σ : Store) (i j : Nat) (x : Slot) : getS (σ.set i x) j = if i = j ∧ i < σ.length then x else getS σ j := by
  unfold getS
  rw [List.getElem?_set]
  by_cases h : i = j
  · subst h
    by_cases hl : i < σ.length
    · simp [hl]
    · simp [hl]
  · simp [h]
theorem getS_clr : ∀ (is : List Nat) (σ : Store) (j : Nat), getS (clr is σ) j = if j ∈ is then .no else getS σ j := by
  intro is
  induction is with
  | nil =>
    intro σ j
    simp [clr]
  | cons i is ih__ =>
    intro σ j
    show getS (clr is (σ.set i .no)) j = _
    rw [ih__, getS_set]
    by_cases h1 : j ∈ is
    · simp [h1]
    · by_cases h2 : i = j
      · subst h2
        by_cases hl : i < σ.length
        · simp [h1, hl]
        · simp [h1, hl, getS]
      · have h3 : ¬ j = i := fun e => h2 e.symm
        simp [h1, h2, h3]
theorem len_clr : ∀ (is : List Nat) (σ : Store), (clr is σ).length = σ.length := by
  intro is
  induction is with
  | nil =>
    intro _
    exact rfl
  | cons i is ih__ =>
    intro σ
    show (clr is (σ.set i .no)).length = _; rw [ih__]; simp
section
variable {prog : Program} {w : World} {A : Around} {s : Shared} {O : List Addr} {env : Env} {pos : Pos} {p : PV} {nm : List Str} {σ : Store} {h h' : Heap}
structure Rds (O : List Addr) (env : Env) (nm : List Str) (σ : Store) (h : Heap) : Prop where
  len : σ.length = nm.length
  ns : ∃ m, h.Ns env.locals m
  cells : ∀ x c, env.cells.lookup x = some c → ∃ v, h.IsCell c v
  val : ∀ (i : Nat) (x : Str) (p : PV), nm[i]? = some x → getS σ i = .val p → ∃ v, Rd env h x v ∧ Rel O h p v
  own : ∀ (i : Nat) (x : Str) (l : List PV), nm[i]? = some x → getS σ i = .own l → ∃ a vs, Rd env h x (.ref a) ∧ IsLst h a vs ∧ RelL O h l vs
theorem Rds.above (r : Rds O env nm σ h) (k : Above h h') : Rds O env nm σ h' where
  len := r.len
  ns := let ⟨m, e⟩ := r.ns; ⟨m, e.keeps k⟩
  cells := fun x c e => let ⟨v, q⟩ := r.cells x c e; ⟨v, q.keeps k⟩
  val := fun i x p e1 e2 => let ⟨v, a, b⟩ := r.val i x p e1 e2; ⟨v, a.above k, b.above k⟩
  own := fun i x l e1 e2 => let ⟨a, vs, q, b, c⟩ := r.own i x l e1 e2; ⟨a, vs, q.above k, b.above k, c.above k⟩
theorem Rds.weaken {σ' : Store} (r : Rds O env nm σ h) (hl : σ'.length = σ.length) (hs : ∀ i, getS σ' i = .no ∨ getS σ' i = getS σ i) : Rds O env nm σ' h where
  len := hl.trans r.len
  ns := r.ns
  cells := r.cells
  val := fun i x p e1 e2 => by rcases hs i with q | q <;> rw [q] at e2; · exact Slot.dif e2 rfl
                               exact r.val i x p e1 e2
  own := fun i x p e1 e2 => by rcases hs i with q | q <;> rw [q] at e2; · exact Slot.dif e2 rfl
                               exact r.own i x p e1 e2
theorem Rds.clr (r : Rds O env nm σ h) (is : List Nat) : Rds O env nm (clr is σ) h := r.weaken (len_clr _ _) fun i => by
  rw [getS_clr]; by_cases q : i ∈ is
  · exact .inl (if_pos q)
  · exact .inr (if_neg q)
structure Fw (O : List Addr) (env : Env) (nm : List Str) : Prop where
  kind : env.scope.kind = .function
  nodup : nm.Nodup
  loc : env.locals ∈ O
  cel : ∀ x c, env.kindOf x = some .cell → env.cells.lookup x = some c → c ∈ O
  apart : env.cells.Pairwise fun x y => x.2 ≠ y.2
  off : ∀ x c, (x, c) ∈ env.cells → c ≠ env.locals
theorem Fw.mono {O' : List Addr} (f : Fw O env nm) (hs : ∀ a ∈ O, a ∈ O') : Fw O' env nm := ⟨f.kind, f.nodup, hs _ f.loc, fun x c a b => hs _ (f.cel x c a b), f.apart, f.off⟩
theorem sameBut_agree {a : Addr} (ha : a ∈ O) (hs : Heap.SameBut a h h') : Agree O h h' := fun b o hb e => hs.extBut b o (fun q => hb (q ▸ ha)) e
noncomputable def SlotRel (O : List Addr) (h : Heap) : Slot → Value → Prop
  | .no, z1 => True
  | .val p, v => Rel O h p v
  | .own l, v => ∃ a vs, v = .ref a ∧ IsLst h a vs ∧ RelL O h l vs
theorem storeSl {x : Str} {i : Nat} {v : Value} {sl : Slot} {Q : Unit → Shared → Prop} {E : Value → Shared → Prop} (f : Fw O env nm) (r : Rds O env nm σ s.heap) (hx : nm[i]? = some x)
    (hk : env.kindOf x = some .local ∨ (env.kindOf x = some .cell ∧ ∃ c, env.cells.lookup x = some c)) (hd : (x == ("__debug__" : Str)) = false) (hv : SlotRel O s.heap sl v)
    (h : ∀ s' a, a ∈ O → ((env.kindOf x = some .local ∧ a = env.locals) ∨ (env.kindOf x = some .cell ∧ env.cells.lookup x = some a)) → Heap.SameBut a s.heap s'.heap → (∃ o, s'.heap.get? a = some o) → s' = { s with heap := s'.heap, toks := s'.toks } → Rds O env nm (σ.set i sl) s'.heap → (∀ y u, y ≠ x → Rd env s.heap y u → Rd env s'.heap y u) → Rd env s'.heap x v → Q () s') :
    wpAny (model prog w) A (storeName env x v) Q E s := by
  have hil : i < σ.length := by rw [r.len]; exact (List.getElem?_eq_some_iff.mp hx).1
  have nmi : ∀ (j : Nat) (y : Str), nm[j]? = some y → j ≠ i → y ≠ x := fun j y hy hj e => by
    subst e
    exact hj (nodup_idx f.nodup hy hx)
  have done : ∀ (h' : Heap) (tk : Nat) (a : Addr) , a ∈ O → ((env.kindOf x = some .local ∧ a = env.locals) ∨ (env.kindOf x = some .cell ∧ env.cells.lookup x = some a)) → Heap.SameBut a s.heap h' → (∃ o, h'.get? a = some o) →
      (∃ m, h'.Ns env.locals m) → (∀ y c, env.cells.lookup y = some c → ∃ u, h'.IsCell c u) → Rd env h' x v →
      (∀ y u, y ≠ x → Rd env s.heap y u → Rd env h' y u) → (∀ b vs, IsLst s.heap b vs → IsLst h' b vs) → Q () { s with heap := h', toks := tk } := fun h' tk a ha hw hs hex h1 h2 h3 h4 h5 => by
    have ag := sameBut_agree (O := O) ha hs
    refine h _ a ha hw hs hex rfl ⟨by rw [List.length_set, r.len], h1, h2, fun j y q e1 e2 => ?_, fun j y q e1 e2 => ?_⟩ h4 h3
    · rw [getS_set] at e2
      by_cases hj : i = j
      · subst hj
        rw [if_pos ⟨rfl, hil⟩] at e2
        subst e2
        rw [hx] at e1; obtain rfl := oi e1
        exact ⟨v, h3, Rel.agree ag _ _ hv⟩
      · rw [if_neg (fun e => hj e.1)] at e2
        obtain ⟨u, a1, a2⟩ := r.val j y q e1 e2
        exact ⟨u, h4 y u (nmi j y e1 (Ne.symm hj)) a1, a2.agree ag⟩
    · rw [getS_set] at e2
      by_cases hj : i = j
      · subst hj
        rw [if_pos ⟨rfl, hil⟩] at e2
        subst e2
        rw [hx] at e1; obtain rfl := oi e1
        obtain ⟨a', vs, rfl, q1, q2⟩ := hv
        exact ⟨a', vs, h3, h5 _ _ q1, RelL.agree ag _ _ q2⟩
      · rw [if_neg (fun e => hj e.1)] at e2
        obtain ⟨b, vs, a1, a2, a3⟩ := r.own j y q e1 e2
        exact ⟨b, vs, h4 y _ (nmi j y e1 (Ne.symm hj)) a1, h5 b vs a2, a3.agree ag⟩
  have lst : ∀ (a : Addr) (h' : Heap), Heap.SameBut a s.heap h' → ((∃ m, s.heap.Ns a m) ∨ ∃ u, s.heap.IsCell a u) → ∀ b vs, IsLst s.heap b vs → IsLst h' b vs := fun a h' hs hw b vs ⟨n, e⟩ => by
    refine ⟨n, (hs.2 b (fun q => ?_)).trans e⟩
    subst q
    rcases hw with ⟨m, o, es, ep, e1, e2, _⟩ | ⟨u, o, e1, e2⟩
    · rw [e] at e1; (obtain rfl := oi e1; clear e1); cases e2
    · rw [e] at e1; (obtain rfl := oi e1; clear e1); cases e2
  rcases hk with hk | ⟨hk, c, hc⟩
  · obtain ⟨m, hm⟩ := r.ns
    refine wpAny_storeName_local hk hm (fun h' hn hs => ?_) (by rw [f.kind]; rfl)
    refine done h' _ env.locals f.loc (.inl ⟨hk, rfl⟩) hs (let ⟨o, _, _, q, _⟩ := hn; ⟨o, q⟩) ⟨_, hn⟩ (fun y c e => ?_) ⟨hd, .inl ⟨hk, _, hn, by simp⟩⟩ (fun y u hy q => ?_) (lst _ _ hs (.inl ⟨m, hm⟩))
    · obtain ⟨u, q⟩ := r.cells y c e
      exact ⟨u, q.sameBut hs (f.off y c (mem_of_lookup e))⟩
    · obtain ⟨d, (⟨a, m', b, c⟩ | ⟨a, c, b, d'⟩)⟩ := q
      · refine ⟨d, .inl ⟨a, _, hn, ?_⟩⟩
        simp only [hy, if_false]
        rw [← c]; exact Heap.Ns.agree hm b y
      · exact ⟨d, .inr ⟨a, c, b, d'.sameBut hs (f.off y c (mem_of_lookup b))⟩⟩
  · obtain ⟨v₀, hc0⟩ := r.cells x c hc
    have hcl := f.off x c (mem_of_lookup hc)
    refine wpAny_storeName_cell f.kind hk hc hc0 fun h' hv' hs => ?_
    obtain ⟨m, hm⟩ := r.ns
    refine done h' s.toks c (f.cel x c hk hc) (.inr ⟨hk, hc⟩) hs (let ⟨o, q, _⟩ := hv'; ⟨o, q⟩) ⟨m, hm.sameBut hs (Ne.symm hcl)⟩ (fun y d e => ?_) ⟨hd, .inr ⟨.inl hk, c, hc, hv'⟩⟩ (fun y u hy q => ?_) (lst _ _ hs (.inr ⟨_, hc0⟩))
    · by_cases hdc : d = c
      · subst hdc; exact ⟨_, hv'⟩
      · obtain ⟨u, q⟩ := r.cells y d e
        exact ⟨u, q.sameBut hs hdc⟩
    · obtain ⟨d, (⟨a, m', b, c'⟩ | ⟨a, c', b, d'⟩)⟩ := q
      · exact ⟨d, .inl ⟨a, m', b.sameBut hs (Ne.symm hcl), c'⟩⟩
      · refine ⟨d, .inr ⟨a, c', b, d'.sameBut hs (fun e => hy ?_)⟩⟩
        subst e
        exact name_of_addr f.apart (mem_of_lookup b) (mem_of_lookup hc)
theorem store {x : Str} {i : Nat} {v : Value} {Q : Unit → Shared → Prop} {E : Value → Shared → Prop} (f : Fw O env nm) (r : Rds O env nm σ s.heap) (hx : nm[i]? = some x)
    (hk : env.kindOf x = some .local ∨ (env.kindOf x = some .cell ∧ ∃ c, env.cells.lookup x = some c)) (hd : (x == ("__debug__" : Str)) = false) (hv : Rel O s.heap p v)
    (h : ∀ s' a, a ∈ O → ((env.kindOf x = some .local ∧ a = env.locals) ∨ (env.kindOf x = some .cell ∧ env.cells.lookup x = some a)) → Heap.SameBut a s.heap s'.heap → (∃ o, s'.heap.get? a = some o) → s' = { s with heap := s'.heap, toks := s'.toks } → Rds O env nm (setS σ i p) s'.heap → Q () s') :
    wpAny (model prog w) A (storeName env x v) Q E s := storeSl (sl := .val p) f r hx hk hd hv fun s' a h1 h2 h3 h4 h5 h6 z1 z2 => h s' a h1 h2 h3 h4 h5 h6
end
end Rs.Internal
end
section
set_option tactic.hygienic false
open PySem PySem.Calls PyProof.Rows PySem.SeqAt PySem.Builtin.Str
namespace Rs.Internal
section
variable {prog : Program} {w : World} {A : Around} {s : Shared} {O W wr : List Addr} {env : Env} {pos : Pos} {p : PV} {h h' : Heap} {tgt : PySem.Expr} {I : Addr}
structure Itr (prog : Program) (w : World) (A : Around) (tgt : PySem.Expr) (I : Addr) (O W wr : List Addr) (Mid : List PV → Value → Heap → Prop) (St : List PV → Heap → Prop) : Prop where
 frame : ∀ l h h', St l h → Agree W h h' → St l h'
 item : ∀ p l (s : Shared) (Q : Option Value → Shared → Prop) (E : Value → Shared → Prop), Alive O s.heap → St (p :: l) s.heap →
  (∀ v h' tk, Rel O h' p v → Mid l v h' → Agree wr s.heap h' → Alive wr h' → Q (some v) { s with heap := h', toks := tk }) → wpAny (model prog w) A (pyNext (.ref I)) Q E s
 go : ∀ p l v (s : Shared) (Q : Unit → Shared → Prop) (E : Value → Shared → Prop), Rel O s.heap p v → Mid l v s.heap →
  (∀ h', Rel O h' p v → St l h' → Agree wr s.heap h' → Alive wr h' → Q () { s with heap := h' }) → wpAny (model prog w) A (letOwnedTupleGo tgt (.ref I) v) Q E s
 done : ∀ (s : Shared) (Q : Option Value → Shared → Prop) (E : Value → Shared → Prop), St [] s.heap →
  (∀ h' tk, Agree wr s.heap h' → Q none { s with heap := h', toks := tk }) → wpAny (model prog w) A (pyNext (.ref I)) Q E s
 self : ∀ l (s : Shared) (Q : Value → Shared → Prop) (E : Value → Shared → Prop), St l s.heap → Q (.ref I) s → wpAny (model prog w) A (pyIter (.ref I)) Q E s
noncomputable def quietIter : List String := ["list_iterator", "tuple_iterator", "range_iterator", "str_ascii_iterator", "str_iterator"]
theorem go_quiet {o : Obj} {v : Value} {T : String} {Q : Unit → Shared → Prop} {E : Value → Shared → Prop} (ho : s.heap.get? I = some o) (hc : o.cls = .type T) (hT : T ∈ quietIter) (h : Q () s) :
  wpAny (model prog w) A (letOwnedTupleGo tgt (.ref I) v) Q E s := by
 have hn : (["enumerate", "zip", "dict_itemiterator", "dict_reverseitemiterator", "odict_iterator", "itertools.zip_longest", "itertools.pairwise"].contains T) = false := by
  simp only [quietIter, List.mem_cons, List.not_mem_nil, or_false] at hT
  rcases hT with rfl | rfl | rfl | rfl | rfl <;> decide
 have key : ∀ (a : Addr), wpAny (model prog w) A (do
   let o ← load I
   match o.cls, o.data with
   | .type n, .fields vs =>
    if ["enumerate", "zip", "dict_itemiterator", "dict_reverseitemiterator", "odict_iterator", "itertools.zip_longest", "itertools.pairwise"].contains n && vs[0]? == some (rawInt a) then
     rule "for.unpacks-the-owned-tuple"
     updateField I 0 .none
   | z1, z2 => pure ()) Q E s := fun a => by
  refine wpAny_bind (wpAny_load ho ?_)
  rw [hc]
  cases o.data with
  | fields vs =>
   dsimp only
   rw [hn, Bool.false_and, if_neg (by simp)]
   exact wpAny_pure h
  | _ => exact wpAny_pure h
 unfold letOwnedTupleGo
 cases tgt <;> first
  | exact wpAny_pure h
  | (cases v <;> first
    | exact wpAny_pure h
    | exact key _)
theorem Itr.of_walks {fp : List Addr} {P : Nat → Value → Prop} {St₀ : Nat → Heap → Prop} {RR : Heap → Prop} {l : List PV} {n : Nat} (Wk : Walks prog w A I fp [I] n P St₀) (hfp : ∀ b ∈ fp, b ∉ W) (hl : l.length = n)
  (hIO : I ∈ O) (hWO : ∀ a ∈ W, a ∈ O) (hP : ∀ (i : Nat) (v : Value) (p : PV) (h : Heap), P i v → l[i]? = some p → RR h → Rel O h p v) (hR : ∀ h h', RR h → Agree O h h' → RR h')
  (hcl : ∀ i h, St₀ i h → ∃ o T, h.get? I = some o ∧ o.cls = .type T ∧ T ∈ quietIter) :
  Itr prog w A tgt I O W [I] (fun r z1 h => ∃ i, r = l.drop i ∧ i ≤ n ∧ St₀ i h ∧ RR h) (fun r h => ∃ i, r = l.drop i ∧ i ≤ n ∧ St₀ i h ∧ RR h) where
 frame := fun r h h' ⟨i, e, hi, st, rr⟩ ag => ⟨i, e, hi, Wk.frame i h h' st fun b hb o eo => ag b o (hfp b hb) eo, hR h h' rr (ag.mono hWO)⟩
 item := fun p r s Q E z1 ⟨i, e, hi, st, rr⟩ hQ => by
  have hlt : i < n := by
   rcases Nat.lt_or_ge i n with q | q
   ·exact q
   ·rw [List.drop_eq_nil_of_le (by lia)] at e; cases e
  have hlt' : i < l.length := by lia
  rw [List.drop_eq_getElem_cons hlt'] at e
  simp only [List.cons.injEq] at e
  obtain ⟨rfl, rfl⟩ := e
  refine Wk.item i s Q E hlt st fun v h' tk hPv hst hk => ?_
  have ag : Agree [I] s.heap h' := hk
  have rr' := hR _ _ rr (ag.mono (O' := O) (by simpa using hIO))
  exact hQ v h' tk (hP i v _ h' hPv (List.getElem?_eq_getElem hlt') rr') ⟨i + 1, rfl, hlt, hst, rr'⟩ ag (by obtain ⟨o, T, ho, _⟩ := hcl _ _ hst; intro a ha; rw [List.mem_singleton.mp ha]; exact ⟨o, ho⟩)
 go := fun p r v s Q E hr ⟨i, e, hi, st, rr⟩ hQ => by
  refine cps fun PP kk => ?_
  obtain ⟨o, T, ho, hc, hT⟩ := hcl i _ st
  refine kk ?_
  clear kk PP
  exact go_quiet ho hc hT (hQ s.heap hr ⟨i, e, hi, st, rr⟩ (Agree.refl _ _) (by intro a ha; rw [List.mem_singleton.mp ha]; exact ⟨o, ho⟩))
 done := fun s Q E ⟨i, e, hi, st, rr⟩ hQ => by
  have hge : n ≤ i := by
   rcases Nat.lt_or_ge i n with q | q
   ·rw [List.drop_eq_getElem_cons (by lia)] at e; cases e
   ·exact q
  obtain rfl : i = n := by lia
  exact Wk.done s Q E st fun h' tk hk => hQ h' tk hk
 self := fun r s Q E ⟨i, e, hi, st, rr⟩ hQ => Wk.self i s Q E st hQ
inductive Src where
 | lst (ax : Addr) (vs : List Value) | tup (ax : Addr) (vs : List Value) | rng (lo st : Int) (n : Nat) | asc (x : Str) (t : Tok) | wid (x : Str) (t : Tok)
noncomputable def Src.at (I : Addr) : Src → Heap → Prop
 | .lst ax vs, h => h.IsListIter I ax 0 ∧ IsLst h ax vs ∧ ax ≠ I
 | .tup ax vs, h => h.IsTupleIter I ax 0 ∧ IsTp h ax vs ∧ ax ≠ I
 | .rng lo st n, h => IsRangeIter h I lo n st
 | .asc x t, h => h.IsStrIter I "str_ascii_iterator" x t 0
 | .wid x t, h => h.IsStrIter I "str_iterator" x t 0
noncomputable def Src.gives (O : List Addr) (h : Heap) : Src → List PV → Prop
 | .lst z1 vs, l => RelL O h l vs
 | .tup z1 vs, l => RelL O h l vs
 | .rng lo st n, l => l = (List.range n).map fun (k : Nat) => PV.int (lo + st * k)
 | .asc x z1, l => l = x.cps.toList.map fun c => .str [c]
 | .wid x z1, l => l = x.cps.toList.map fun c => .str [c]
noncomputable def Src.off (W : List Addr) : Src → Prop
 | .lst ax z1 => ax ∉ W
 | .tup ax z1 => ax ∉ W
 | z1 => True
theorem Src.at.above {I : Addr} {src : Src} (x : src.at I h) (k : Above h h') : src.at I h' := by
 cases src with
 | lst ax vs => exact ⟨x.1.at fun o e => k _ o e, x.2.1.above k, x.2.2⟩
 | tup ax vs => exact ⟨x.1.at fun o e => k _ o e, x.2.1.above k, x.2.2⟩
 | rng lo st n => exact k _ _ x
 | asc y t => obtain ⟨o, ho, r⟩ := x; exact ⟨o, k _ _ ho, r⟩
 | wid y t => obtain ⟨o, ho, r⟩ := x; exact ⟨o, k _ _ ho, r⟩
theorem Src.gives.above {src : Src} {l : List PV} (x : src.gives O h l) (k : Above h h') : src.gives O h' l := by
 cases src with
 | lst ax vs => exact RelL.above x k
 | tup ax vs => exact RelL.above x k
 | _ => exact x
theorem signs_rel {x : Str} {i : Nat} {v : Value} {p : PV} {h : Heap} (hs : SignAt x i v) (hp : (x.cps.toList.map fun c => PV.str [c])[i]? = some p) : Rel O h p v := by
 obtain ⟨c, u, hc, rfl⟩ := hs
 rw [List.getElem?_map, ← Array.getElem?_toList] at *
 rw [hc] at hp
 obtain rfl := oi hp
 exact rel_str' _ _ rfl
theorem Src.itr {src : Src} {l : List PV} {I : Addr} (hh : A.handled = none) (hat : src.at I h) (hg : src.gives O h l) (hIO : I ∈ O) (hIW : I ∉ W) (hWO : ∀ a ∈ W, a ∈ O) (ho : src.off W) :
  ∃ Mid St, Itr prog w A tgt I O W [I] Mid St ∧ St l h := by
 cases src with
 | lst ax vs =>
  have hW : ∀ b ∈ [I, ax], b ∉ W := fun b hb => by
   rcases List.mem_cons.mp hb with rfl | hb
   ·exact hIW
   ·rw [List.mem_singleton.mp hb]; exact ho
  have K := Itr.of_walks (O := O) (W := W) (tgt := tgt) (RR := fun h => RelL O h l vs) (l := l) (Walks.list (prog := prog) (w := w) hh I ax hat.2.2 vs.toArray) hW (by rw [RelL.length hg]; simp) hIO hWO
   (fun i v p h hv hp rr => by
    obtain ⟨u, e, r⟩ := rr.get hp
    have : v = u := by simpa [e] using hv.symm
    rw [this]; exact r)
   (fun h h' rr ag => RelL.agree ag _ _ rr) (fun i h st => by obtain ⟨⟨o, a, b, c⟩, _⟩ := st; exact ⟨o, _, a, b, by simp [quietIter]⟩)
  exact ⟨_, _, K, 0, rfl, Nat.zero_le _, ⟨hat.1, hat.2.1.isList⟩, hg⟩
 | tup ax vs =>
  have hW : ∀ b ∈ [I, ax], b ∉ W := fun b hb => by
   rcases List.mem_cons.mp hb with rfl | hb
   ·exact hIW
   ·rw [List.mem_singleton.mp hb]; exact ho
  have K := Itr.of_walks (O := O) (W := W) (tgt := tgt) (RR := fun h => RelL O h l vs) (l := l) (Walks.tuple (prog := prog) (w := w) hh I ax hat.2.2 vs.toArray) hW (by rw [RelL.length hg]; simp) hIO hWO
   (fun i v p h hv hp rr => by
    obtain ⟨u, e, r⟩ := rr.get hp
    have : v = u := by simpa [e] using hv.symm
    rw [this]; exact r)
   (fun h h' rr ag => RelL.agree ag _ _ rr) (fun i h st => by obtain ⟨⟨o, a, b, c⟩, _⟩ := st; exact ⟨o, _, a, b, by simp [quietIter]⟩)
  exact ⟨_, _, K, 0, rfl, Nat.zero_le _, ⟨hat.1, hat.2.1.isTuple⟩, hg⟩
 | rng lo st n =>
  have hg' : l = (List.range n).map fun (k : Nat) => PV.int (lo + st * k) := hg
  have hat' : IsRangeIter h I lo n st := hat
  have K := Itr.of_walks (O := O) (W := W) (tgt := tgt) (RR := fun z1 => True) (l := l) (Walks.range (prog := prog) (w := w) hh I lo st n) (fun b hb => by rw [List.mem_singleton.mp hb]; exact hIW) (by rw [hg']; simp) hIO hWO
   (fun i v p h hv hp rr => by
    obtain ⟨t, rfl⟩ := hv
    rw [hg', List.getElem?_map] at hp
    by_cases hi : i < n
    ·rw [List.getElem?_range hi] at hp
     obtain rfl := oi hp
     rw [Int.mul_comm]; exact rel_int _ _ _
    ·rw [List.getElem?_eq_none (by simpa using hi)] at hp; exact nope hp)
   (fun z1 z2 z3 z4 => trivial) (fun i h st => ⟨_, _, st, rfl, by simp [quietIter]⟩)
  exact ⟨_, _, K, 0, rfl, Nat.zero_le _, by simpa using hat', trivial⟩
 | asc x t =>
  have hg' : l = x.cps.toList.map fun c => .str [c] := hg
  have K := Itr.of_walks (O := O) (W := W) (tgt := tgt) (RR := fun z1 => True) (l := l) (Walks.strAscii (prog := prog) (w := w) hh I x t) (fun b hb => by rw [List.mem_singleton.mp hb]; exact hIW) (by rw [hg']; simp) hIO hWO
   (fun i v p h hv hp rr => signs_rel hv (by rwa [hg'] at hp)) (fun z1 z2 z3 z4 => trivial) (fun i h st => by obtain ⟨o, a, b, c⟩ := st; exact ⟨o, _, a, b, by simp [quietIter]⟩)
  exact ⟨_, _, K, 0, rfl, Nat.zero_le _, hat, trivial⟩
 | wid x t =>
  have hg' : l = x.cps.toList.map fun c => .str [c] := hg
  have K := Itr.of_walks (O := O) (W := W) (tgt := tgt) (RR := fun z1 => True) (l := l) (Walks.strWide (prog := prog) (w := w) hh I x t) (fun b hb => by rw [List.mem_singleton.mp hb]; exact hIW) (by rw [hg']; simp) hIO hWO
   (fun i v p h hv hp rr => signs_rel hv (by rwa [hg'] at hp)) (fun z1 z2 z3 z4 => trivial) (fun i h st => by obtain ⟨o, a, b, c⟩ := st; exact ⟨o, _, a, b, by simp [quietIter]⟩)
  exact ⟨_, _, K, 0, rfl, Nat.zero_le _, hat, trivial⟩
end
end Rs.Internal
end
section
set_option tactic.hygienic false
open PySem PySem.Calls PyProof.Rows PySem.SeqAt PySem.Builtin.Str
namespace Rs.Internal
section
variable {prog : Program} {w : World} {A : Around} {s : Shared} {O S wr : List Addr} {env : Env} {pos : Pos} {p : PV} {σ : Store} {h h' : Heap} {nm : List Str}
noncomputable def Ch (S : List Addr) (s s' : Shared) : Prop := (∃ h' tk, s' = { s with heap := h', toks := tk } ∧ Agree S s.heap h') ∧ s.toks ≤ s'.toks
theorem Ch.refl (S : List Addr) (s : Shared) : Ch S s s := ⟨⟨s.heap, s.toks, rfl, Agree.refl _ _⟩, Nat.le_refl _⟩
theorem Ch.agree {s s' : Shared} (c : Ch S s s') : Agree S s.heap s'.heap := by obtain ⟨⟨h', tk, rfl, hk⟩, _⟩ := c; exact hk
theorem Ch.trans {s s' s'' : Shared} (x : Ch S s s') (y : Ch S s' s'') : Ch S s s'' := by
 obtain ⟨⟨h', tk, rfl, hk⟩, l⟩ := x
 obtain ⟨⟨h'', tk', rfl, hk'⟩, l'⟩ := y
 exact ⟨⟨h'', tk', rfl, hk.trans hk'⟩, Nat.le_trans l l'⟩
theorem Ch.mono {S' : List Addr} {s s' : Shared} (x : Ch S s s') (hs : ∀ a ∈ S, a ∈ S') : Ch S' s s' := by
 refine cps fun PP kk => ?_
 obtain ⟨⟨h', tk, ee1, hk⟩, l⟩ := x
 refine kk ?_
 clear kk PP
 subst ee1
 exact ⟨⟨h', tk, rfl, hk.mono hs⟩, l⟩
theorem Kp.ch {s s' : Shared} (k : Kp s s') : Ch S s s' := by
 refine cps fun PP kk => ?_
 obtain ⟨⟨h', tk, ee1, hk⟩, l⟩ := k
 refine kk ?_
 clear kk PP
 subst ee1
 exact ⟨⟨h', tk, rfl, hk.agree⟩, l⟩
theorem Ch.kp {s s' : Shared} (c : Ch [] s s') : Kp s s' := by
 refine cps fun PP kk => ?_
 obtain ⟨⟨h', tk, ee1, hk⟩, l⟩ := c
 refine kk ?_
 clear kk PP
 subst ee1
 exact ⟨⟨h', tk, rfl, fun b o e => hk b o (by simp) e⟩, l⟩
theorem Ch.drop {s s' : Shared} (c : Ch (S ++ wr) s s') (hf : ∀ a ∈ wr, s.heap.get? a = none) : Ch S s s' := by
 refine cps fun PP kk => ?_
 obtain ⟨⟨h', tk, ee1, hk⟩, l⟩ := c
 refine kk ?_
 clear kk PP
 subst ee1
 refine ⟨⟨h', tk, rfl, fun b o hb e => hk b o (fun m => ?_) e⟩, l⟩
 rcases List.mem_append.mp m with m | m
 ·exact hb m
 ·rw [hf b m] at e; exact nope e
theorem Alive.agree (x : Alive O h) (k : Agree S h h') (y : Alive S h') : Alive O h' := fun a m => by
 by_cases q : a ∈ S
 ·exact y a q
 ·obtain ⟨o, e⟩ := x a m
  exact ⟨o, k a o q e⟩
theorem Alive.same {a : Addr} (x : Alive O h) (hs : Heap.SameBut a h h') (y : ∃ o, h'.get? a = some o) : Alive O h' :=
 x.agree (S := [a]) (fun b o hb e => hs.extBut b o (by simpa using hb) e) fun b m => by rw [List.mem_singleton.mp m]; exact y
theorem Alive.cons {a : Addr} (x : Alive O h) (y : ∃ o, h.get? a = some o) : Alive (a :: O) h := fun b m => by
 rcases List.mem_cons.mp m with rfl | m
 ·exact y
 ·exact x b m
theorem Alive.sub {O' : List Addr} (x : Alive O h) (hs : ∀ a ∈ O', a ∈ O) : Alive O' h := fun a m => x a (hs a m)
noncomputable def Stor (S : List Addr) (env : Env) (x : Str) : Prop :=
 (x == ("__debug__" : Str)) = false ∧ ((env.kindOf x = some .local ∧ env.locals ∈ S) ∨ (env.kindOf x = some .cell ∧ ∃ c, env.cells.lookup x = some c ∧ c ∈ S))
theorem store1 {x : Str} {i : Nat} {v : Value} {Q : Unit → Shared → Prop} {E : Value → Shared → Prop} (f : Fw O env nm) (r : Rds O env nm σ s.heap) (al : Alive O s.heap) (hx : nm[i]? = some x)
  (hS : Stor S env x) (hSO : ∀ a ∈ S, a ∈ O) (hv : Rel O s.heap p v) (h : ∀ s', Ch S s s' → Alive O s'.heap → Rds O env nm (setS σ i p) s'.heap → Q () s') :
  wpAny (model prog w) A (assign (.Name x pos) env v) Q E s := by
 refine wpAny_assign_Name (wpAny_mono (wpAny_toks_of (Nat.le_refl s.toks) (store (Q := fun z1 s' => (∃ h' tk, s' = { s with heap := h', toks := tk } ∧ Agree S s.heap h') ∧ Alive O s'.heap ∧ Rds O env nm (setS σ i p) s'.heap) (E := fun z1 z2 => False) f r hx ?_ hS.1 hv fun s' a ha hw hs hex e r' => ?_)) (fun z1 s' q => h s' ⟨q.2.1, q.1⟩ q.2.2.1 q.2.2.2) fun z1 z2 q => q.2.elim)
 ·rcases hS.2 with ⟨a, b⟩ | ⟨a, c, b, d⟩
  ·exact .inl a
  ·exact .inr ⟨a, c, b⟩
 ·have haS : a ∈ S := by
   rcases hw with ⟨k, rfl⟩ | ⟨k, l⟩
   ·rcases hS.2 with ⟨_, b⟩ | ⟨k', _⟩
    ·exact b
    ·rw [k] at k'; cases k'
   ·rcases hS.2 with ⟨k', _⟩ | ⟨_, c, b, d⟩
    ·rw [k] at k'; cases k'
    ·rw [l] at b; (obtain rfl := oi b; clear b); exact d
  exact ⟨⟨s'.heap, s'.toks, e, sameBut_agree haS hs⟩, al.same hs hex, r'⟩
noncomputable def setAll (σ : Store) (l : List (Nat × PV)) : Store := l.foldl (fun σ x => setS σ x.1 x.2) σ
theorem storeAll {E : Value → Shared → Prop} (f : Fw O env nm) (hSO : ∀ a ∈ S, a ∈ O) : ∀ {ns : List (Str × Pos)} {is : List Nat} {ps : List PV} {vs : List Value} {σ : Store} {s : Shared} {Q : Unit → Shared → Prop}, Rds O env nm σ s.heap → Alive O s.heap →
  (∀ n ∈ ns, Stor S env n.1) → ns.mapM (fun n => nm.idxOf? n.1) = some is → is.length = ps.length → RelL O s.heap ps vs → (∀ s', Ch S s s' → Alive O s'.heap → Rds O env nm (setAll σ (is.zip ps)) s'.heap → Q () s') →
  wpAny (model prog w) A (assignInOrder (ns.map fun n => assign (.Name n.1 n.2) env) vs) Q E s
 | [], is, ps, vs, σ, s, Q, r, al, hS, hi, hl, hv, h => by
  simp only [List.mapM_nil, Option.pure_def, Option.some.injEq] at hi
  subst hi
  obtain rfl : ps = [] := List.length_eq_zero_iff.mp (by simpa using hl.symm)
  obtain rfl := (show _ = [] from hv)
  exact assignInOrder_nil (h s (Ch.refl _ _) al r)
 | n :: ns, is, ps, vs, σ, s, Q, r, al, hS, hi, hl, hv, h => by
  rw [List.mapM_cons] at hi
  simp only [Option.bind_eq_bind, Option.bind_eq_some_iff, Option.pure_def, Option.some.injEq] at hi
  refine cps fun PP kk => ?_
  obtain ⟨i, hi1, is', hi2, ee1⟩ := hi
  refine kk ?_
  clear kk PP
  subst ee1
  cases ps with
  | nil => simp at hl
  | cons p ps =>
   refine cps fun PP kk => ?_
   obtain ⟨v, r', ee2, hv1, hv2⟩ := hv
   refine kk ?_
   clear kk PP
   subst ee2
   have hx : nm[i]? = some n.1 := by
    rw [List.idxOf?_eq_some_iff] at hi1
    obtain ⟨h1, h2, _⟩ := hi1
    rw [List.getElem?_eq_getElem h1]; simpa using h2
   refine assignInOrder_cons (store1 f r al hx (hS n (by simp)) hSO hv1 fun s₁ c₁ al₁ r₁ => ?_)
   exact storeAll f hSO r₁ al₁ (fun m hm => hS m (by simp [hm])) hi2 (by simpa using hl) (hv2.agree (c₁.agree.mono hSO)) fun s₂ c₂ al₂ r₂ => h s₂ (c₁.trans c₂) al₂ r₂
end
end Rs.Internal
end
section
set_option tactic.hygienic false
set_option backward.match.sparseCases false
open PySem PySem.Calls PyProof.Rows PySem.SeqAt PySem.Builtin.Str
namespace Rs.Internal
noncomputable def nameOf (n : Str × Pos) : PySem.Expr := .Name n.1 n.2
theorem assignEach_names (env : Env) : ∀ ns : List (Str × Pos), assignEach (ns.map nameOf) env = ns.map fun n => (false, assign (nameOf n) env) := by
 intro ns
 induction ns with
 | nil =>
  exact rfl
 | cons n ns ih__ =>
  rw [List.map_cons, List.map_cons, ← ih__]
  rfl
inductive Tg (S : List Addr) (env : Env) (nm : List Str) : PySem.Expr → Bool → List Nat → Prop where
 | one (x : Str) (pos : Pos) (i : Nat) : nm[i]? = some x → Stor S env x → Tg S env nm (.Name x pos) true [i]
 | tup (ns : List (Str × Pos)) (k : Nat) (pos : Pos) (is : List Nat) : (∀ n ∈ ns, Stor S env n.1) → ns.mapM (fun n => nm.idxOf? n.1) = some is → Tg S env nm (.Tuple (ns.map nameOf) k pos) false is
section
variable {prog : Program} {w : World} {A : Around} {s : Shared} {O S wr : List Addr} {env : Env} {pos : Pos} {p : PV} {σ σ' : Store} {h h' : Heap} {nm : List Str} {t : PySem.Expr} {one : Bool} {tg : List Nat}
theorem mapM_len {α β : Type} {f : α → Option β} : ∀ {l : List α} {r : List β}, l.mapM f = some r → r.length = l.length := by
 intro l
 induction l with
 | nil =>
  intro r h
  simp at h; subst h; rfl
 | cons a l ih__ =>
  intro r h
  rw [List.mapM_cons] at h
  simp only [Option.bind_eq_bind, Option.bind_eq_some_iff, Option.pure_def, Option.some.injEq] at h
  refine cps fun PP kk => ?_
  obtain ⟨b, _, r', hr, ee1⟩ := h
  refine kk ?_
  clear kk PP
  subst ee1
  simp [ih__ hr]
theorem tg_assign {v : Value} {Q : Unit → Shared → Prop} {E : Value → Shared → Prop} (T : Tg S env nm t one tg) (hh : A.handled = none) (f : Fw O env nm) (hSO : ∀ a ∈ S, a ∈ O) (r : Rds O env nm σ s.heap) (al : Alive O s.heap)
  (hb : bindTg one tg p σ = some σ') (hv : Rel O s.heap p v) (h : ∀ s', Ch S s s' → Alive O s'.heap → Rds O env nm σ' s'.heap → Q () s') :
  wpAny (model prog w) A (assign t env v) Q E s := by
 cases T with
 | one x px i hx hS =>
  obtain rfl := Option.some.inj hb
  exact store1 f r al hx hS hSO hv h
 | tup ns k px is hS hi =>
  replace hb := bnd hb
  obtain ⟨ps, hp, hb⟩ := hb
  rw [PV.tup_of hp] at hv
  ·replace hb := itp hb
   obtain ⟨hl, hb⟩ := hb
   ·obtain rfl := Option.some.inj hb
    refine cps fun PP kk => ?_
    obtain ⟨a, vs, ee1, ha, ht, hr⟩ := hv
    refine kk ?_
    clear kk PP
    subst ee1
    refine wpAny_assign_Tuple hh ht.isTuple ?_ ?_ fun h₁ he₁ => ?_
    ·rw [assignEach_names]; simp [← hr.length, ← hl, mapM_len hi]
    ·rw [assignEach_names, List.findIdx?_eq_none_iff]; simp
    ·rw [assignEach_names, List.map_map]
     have ab : Above s.heap h₁ := fun b o e => he₁ b o (Nat.ne_of_lt (Heap.lt_size e)) e
     refine storeAll f hSO (σ := σ) (ps := ps) (is := tg) (r.above ab) (al.above ab) hS hi hl (by simpa using hr.above ab) fun s' c al' r' => ?_
     exact h s' (Ch.trans ⟨⟨h₁, s.toks, rfl, ab.agree⟩, Nat.le_refl _⟩ c) al' r'
theorem allNames_eq : ∀ {es : List PySem.Expr} {xs : List Str}, allNames es = some xs → ∃ ns : List (Str × Pos), es = ns.map nameOf ∧ xs = ns.map (·.1) := by
 intro es
 induction es with
 | nil =>
  intro xs h
  exact ⟨[], rfl, (oi h).symm⟩
 | cons e r ih__ =>
  intro xs h
  replace h := bnd h
  obtain ⟨x, hx, h⟩ := h
  replace h := mpd h
  obtain ⟨ys, hy, rfl⟩ := h
  obtain ⟨p, rfl⟩ := nameIs_of hx
  obtain ⟨ns, rfl, rfl⟩ := ih__ hy
  exact ⟨(x, p) :: ns, rfl, rfl⟩
theorem mapM_of {α β : Type} {f g : α → Option β} : ∀ {l : List α} {r : List β}, l.mapM f = some r → (∀ a ∈ l, ∀ b, f a = some b → g a = some b) → l.mapM g = some r := by
 intro l
 induction l with
 | nil =>
  intro r h _
  simpa using h
 | cons a l ih__ =>
  intro r h hg
  rw [List.mapM_cons] at h ⊢
  simp only [Option.bind_eq_bind, Option.bind_eq_some_iff, Option.pure_def, Option.some.injEq] at h ⊢
  obtain ⟨b, hb, r', hr, rfl⟩ := h
  exact ⟨b, hg a (by simp) b hb, r', ih__ hr (fun c hc => hg c (by simp [hc])), rfl⟩
theorem mapM_all {α β : Type} {f : α → Option β} : ∀ {l : List α} {r : List β}, l.mapM f = some r → ∀ a ∈ l, ∃ b, f a = some b := by
 intro l
 induction l with
 | nil =>
  intro r h a ha
  cases ha
 | cons c l ih__ =>
  intro r h a ha
  rw [List.mapM_cons] at h
  simp only [Option.bind_eq_bind, Option.bind_eq_some_iff, Option.pure_def, Option.some.injEq] at h
  obtain ⟨b, hb, r', hr, rfl⟩ := h
  rcases List.mem_cons.mp ha with rfl | ha
  ·exact ⟨b, hb⟩
  ·exact ih__ hr a ha
theorem idxOf?_get {nm : List Str} {x : Str} {i : Nat} (h : nm.idxOf? x = some i) : nm[i]? = some x := by
 rw [List.idxOf?_eq_some_iff] at h
 obtain ⟨h1, h2, _⟩ := h
 rw [List.getElem?_eq_getElem h1]; simpa using h2
theorem tg_of {g : Str → Option Nat} (hg : ∀ x i, g x = some i → nm.idxOf? x = some i ∧ Stor S env x) {t : PySem.Expr} {one : Bool} {tg : List Nat}
  (h : (match t with
   | .Name x z1 => (g x).map fun i => (true, [i])
   | .Tuple es z1 z2 => ((allNames es).bind fun ns => ns.mapM g).map fun is => (false, is)
   | _ => none) = some (one, tg)) : Tg S env nm t one tg := by
 cases t with
 | Name x p =>
  replace h := mpd h
  obtain ⟨i, hi, h⟩ := h
  obtain ⟨rfl, rfl⟩ := Prod.mk.inj h
  exact .one _ _ _ (idxOf?_get (hg _ _ hi).1) (hg _ _ hi).2
 | Tuple es z1 z2 =>
  replace h := mpd h
  obtain ⟨is, hi, h⟩ := h
  obtain ⟨rfl, rfl⟩ := Prod.mk.inj h
  replace hi := bnd hi
  obtain ⟨xs, hx, hi⟩ := hi
  obtain ⟨ns, rfl, rfl⟩ := allNames_eq hx
  rw [List.mapM_map] at hi
  refine .tup ns _ _ _ (fun n hn => ?_) (mapM_of hi fun a z1 b hb => (hg _ _ hb).1)
  obtain ⟨b, hb⟩ := mapM_all hi n hn
  exact (hg _ _ hb).2
 | _ => exact nope h
end
end Rs.Internal
end
section
set_option tactic.hygienic false
open PySem PySem.Calls PyProof.Rows PySem.SeqAt PySem.Builtin.Str
namespace Rs.Internal
theorem Rds.mono {O O' : List Addr} {env : Env} {nm : List Str} {σ : Store} {h : Heap} (r : Rds O env nm σ h) (hs : ∀ a ∈ O', a ∈ O) : Rds O' env nm σ h where
 len := r.len
 ns := r.ns
 cells := r.cells
 val := fun i x p e1 e2 => let ⟨v, a, b⟩ := r.val i x p e1 e2; ⟨v, a, Rel.mono hs _ _ b⟩
 own := fun i x l e1 e2 => let ⟨a, vs, q, b, c⟩ := r.own i x l e1 e2; ⟨a, vs, q, b, RelL.mono hs _ _ c⟩
theorem Rds.agree {O S : List Addr} {env : Env} {nm : List Str} {σ : Store} {h h' : Heap} (r : Rds O env nm σ h) (k : Agree S h h') (hSO : ∀ a ∈ S, a ∈ O) (h1 : env.locals ∉ S) (h2 : ∀ x c, env.cells.lookup x = some c → c ∉ S)
  (h3 : ∀ i x l, nm[i]? = some x → getS σ i = .own l → ∀ a, Rd env h x (.ref a) → a ∉ S) : Rds O env nm σ h' := by
 have rd : ∀ x v, Rd env h x v → Rd env h' x v := fun x v ⟨d, q⟩ => ⟨d, by
  rcases q with ⟨a, m, b, c⟩ | ⟨a, c, b, o, e1, e2⟩
  ·exact .inl ⟨a, m, b.at' fun o e => k _ o h1 e, c⟩
  ·exact .inr ⟨a, c, b, o, k _ o (h2 _ _ b) e1, e2⟩⟩
 exact {
  len := r.len
  ns := let ⟨m, e⟩ := r.ns; ⟨m, e.at' fun o e => k _ o h1 e⟩
  cells := fun x c e => let ⟨v, o, e1, e2⟩ := r.cells x c e; ⟨v, o, k _ o (h2 _ _ e) e1, e2⟩
  val := fun i x p e1 e2 => let ⟨v, a, b⟩ := r.val i x p e1 e2; ⟨v, rd _ _ a, b.agree (k.mono hSO)⟩
  own := fun i x l e1 e2 => let ⟨a, vs, q, b, c⟩ := r.own i x l e1 e2; let ⟨n, e⟩ := b; ⟨a, vs, rd _ _ q, ⟨n, k _ _ (h3 i x l e1 e2 a q) e⟩, c.agree (k.mono hSO)⟩ }
structure EnvOk (cx : Cx) (env : Env) : Prop where
 kind : env.scope.kind = .function
 gls : env.globals = mainGlobals
 bis : env.builtins = builtinsNs
 dbg : ∀ x k, cx.kind.lookup x = some k → (x == ("__debug__" : Str)) = false
 glob : ∀ x, cx.kind.lookup x = some .globalImplicit → env.kindOf x = some .globalImplicit
 loc : ∀ x, cx.kind.lookup x = some .local → env.kindOf x = some .local
 cel : ∀ x, cx.kind.lookup x = some .cell → env.kindOf x = some .cell ∧ ∃ c, env.cells.lookup x = some c
 fre : ∀ x, cx.kind.lookup x = some .free → (x == ("__classdict__" : Str)) = false → (env.kindOf x = some .cell ∨ env.kindOf x = some .free) ∧ ∃ c, env.cells.lookup x = some c
noncomputable def plainNames : List Str := ["len", "chr", "ord", "min", "max", "sum", "list", "range", "isinstance", "int", "bool", "zip"]
section
variable (prog : Program) (w : World) (G : Gl) (φ : Nat → List PV → Option PV) (hb : Heap) (gl fn : List Str)
structure Glob (A : Around) (mg mb : Str → Option Value) : Prop where
 han : A.handled = none
 units : A.units < cLine
 ns : hb.Ns mainGlobals mg
 bi : hb.Ns builtinsNs mb
 boot : ∀ x : Str, x ≠ "__name__" → mb x = bootBuiltins x
 const : ∀ (i : Nat) (x : Str) (p : PV), gl[i]? = some x → G.const[i]? = some p → ∃ v, mg x = some v ∧ ∀ (O : List Addr) (h : Heap), Rel O h p v
 fns : ∀ (k : Nat) (x : Str), fn[k]? = some x → ∃ (f : Addr) (o : Obj) (fd : FuncData), mg x = some (.ref f) ∧ hb.get? f = some o ∧ o.data = .func fd ∧
  ∀ (O : List Addr) (s : Shared) (args : List PV) (vs : List Value) (p : PV), Above hb s.heap → 1 ≤ s.toks → Alive O s.heap → RelL O s.heap args vs → φ k args = some p → Ev0 prog w A O (call (.ref f) vs) p s
 free : ∀ x ∈ plainNames, mg x = none
end
structure Ok (hb : Heap) (cx : Cx) (env : Env) (O : List Addr) (σ : Store) (s : Shared) : Prop where
 eo : EnvOk cx env
 fw : Fw O env cx.nm
 rds : Rds O env cx.nm σ s.heap
 al : Alive O s.heap
 base : Above hb s.heap
 tok : 1 ≤ s.toks
theorem Ok.later {hb : Heap} {cx : Cx} {env : Env} {O : List Addr} {σ : Store} {s s' : Shared} (o : Ok hb cx env O σ s) (k : Kp s s') : Ok hb cx env O σ s' where
 eo := o.eo
 fw := o.fw
 rds := o.rds.above k.above
 al := o.al.above k.above
 base := o.base.trans k.above
 tok := Nat.le_trans o.tok k.2
end Rs.Internal
end
section
set_option tactic.hygienic false
open PySem PySem.Calls PyProof.Rows PySem.SeqAt PySem.Builtin.Str
namespace Rs.Internal
noncomputable def testsOf (ifs : List PySem.Expr) (env : Env) : Sem Bool :=
 forIn ifs true fun c r => if r = true then do let ok ← PySem.isTrue c env (eval c env); pure (ForInStep.yield ok) else pure (ForInStep.yield r)
noncomputable def restThen (elt : PySem.Expr) (gens : List Comprehension) (sc : Scope) (pos : Pos) (d : Nat) (acc : Value) (env : Env) (nxt : Option Comprehension) (k : Sem Fin) : Sem Fin :=
 match nxt with
 | some ⟨z1, iter, z2, z3⟩ => eval iter env >>= fun x => standAt iter.pos >>= fun z1 => foldedSetIterable iter env x >>= fun x => holding [x] (pyIter x) >>= fun i =>
   runOwn (.compStart (.ListComp elt gens sc pos) (d + 1) i acc env) env >>= fun z1 => k
 | none => (eval elt env >>= fun x => call (.builtin "list.append") [acc, x] >>= fun z1 => pure ()) >>= fun z1 => k
theorem compTurn_gen {elt : PySem.Expr} {gens : List Comprehension} {sc : Scope} {pos : Pos} {d : Nat} {t iter : PySem.Expr} {ifs : List PySem.Expr} {nxt : Option Comprehension} (hg : gens[d]? = some ⟨t, iter, ifs, 0⟩)
  (hn : gens[d + 1]? = nxt) (ha : ∀ g, nxt = some g → g.is_async = 0) (it acc : Value) (env : Env) :
  compTurn (.ListComp elt gens sc pos) d it acc env = (standAt iter.pos >>= fun z1 => pyNext it >>= fun r => match r with
   | none => pure (.done .next)
   | some v => letOwnedTupleGo t it v >>= fun z1 => assign t env v >>= fun z1 => testsOf ifs env >>= fun ok =>
     if ok = true then restThen elt gens sc pos d acc env nxt (again (.compLoop (.ListComp elt gens sc pos) d it acc env))
     else again (.compLoop (.ListComp elt gens sc pos) d it acc env)) := by
 cases nxt with
 | none =>
  unfold compTurn restThen testsOf
  simp only [hg, hn]
  rfl
 | some g =>
  obtain ⟨t', iter', ifs', a⟩ := g
  obtain rfl : a = 0 := ha _ rfl
  unfold compTurn restThen testsOf
  simp only [hg, hn]
  rfl
section
variable {prog : Program} {w : World} {A : Around} {s : Shared}
theorem compStart_gen {elt : PySem.Expr} {gens : List Comprehension} {sc : Scope} {pos : Pos} {d : Nat} {t iter : PySem.Expr} {ifs : List PySem.Expr} {it acc : Value} {env : Env} {R : Result → Shared → Prop} (hg : gens[d]? = some ⟨t, iter, ifs, 0⟩)
  (h0 : codeAny (model prog w) A (.compLoop (.ListComp elt gens sc pos) d it acc env) R s)
  (h : wpAny (model prog w) A (pyIter it) (fun it' s' => codeAny (model prog w) A (.compLoop (.ListComp elt gens sc pos) d it' acc env) R s') (fun z1 z2 => False) s) :
  codeAny (model prog w) A (.compStart (.ListComp elt gens sc pos) d it acc env) R s := by
 refine codeAny_of_tree ?_
 show wpAny _ _ ((compStart (.ListComp elt gens sc pos) d it acc env).onRaise (fun x => do noteFrame x env; standAt theWindowsPlace)) _ _ s
 refine wpAny_notedAt ?_
 unfold compStart
 have hc : (clausesOf (PySem.Expr.ListComp elt gens sc pos))[d]? = some ⟨t, iter, ifs, 0⟩ := hg
 simp only [hc]
 show wpAny _ _ (ask >>= _) _ _ s
 refine wpAny_bind (wpAny_askSetting (wpAny_ite ?_))
 split
 ·first
   | exact wpAny_bind (wpAny_pure (wpAny_pure (And.intro rfl h0)))
   | exact wpAny_pure (And.intro rfl h0)
 ·refine wpAny_bind (wpAny_rule ?_)
  show wpAny _ _ (standAt iter.pos >>= _) _ _ s
  exact wpAny_bind (wpAny_standAt (wpAny_bind (wpAny_mono h (fun it' s' h' => wpAny_pure (And.intro rfl h')) fun z1 z2 x => x.elim)))
theorem comp_loop_rule {elt : PySem.Expr} {gens : List Comprehension} {sc : Scope} {pos : Pos} {d : Nat} {t iter : PySem.Expr} {ifs : List PySem.Expr} {nxt : Option Comprehension} {it acc : Value} {env : Env} {R : Result → Shared → Prop}
  (hg : gens[d]? = some ⟨t, iter, ifs, 0⟩) (hn : gens[d + 1]? = nxt) (ha : ∀ g, nxt = some g → g.is_async = 0) (I : Nat → Shared → Prop)
  (turn : ∀ n s, I n s → ∀ again' : Sem Fin, (∀ m s', m < n → I m s' → wpAny (model prog w) A again' (fun fin s' => match fin with | .done f => R (.ok f) s' | .again c' => c' = .compLoop (.ListComp elt gens sc pos) d it acc env ∧ ∃ m, m < n ∧ I m s') (fun z1 z2 => False) s') →
   wpAny (model prog w) A (pyNext it) (fun r s₁ => match r with
    | none => R (.ok .next) s₁
    | some v => wpAny (model prog w) A (letOwnedTupleGo t it v) (fun z1 s₂ => wpAny (model prog w) A (assign t env v) (fun z1 s₃ => wpAny (model prog w) A (testsOf ifs env) (fun ok s₄ =>
      if ok = true then wpAny (model prog w) A (restThen elt gens sc pos d acc env nxt again') (fun fin s' => match fin with | .done f => R (.ok f) s' | .again c' => c' = .compLoop (.ListComp elt gens sc pos) d it acc env ∧ ∃ m, m < n ∧ I m s') (fun z1 z2 => False) s₄
      else ∃ m, m < n ∧ I m s₄) (fun z1 z2 => False) s₃) (fun z1 z2 => False) s₂) (fun z1 z2 => False) s₁) (fun z1 z2 => False) s)
  (n : Nat) (h : I n s) : codeAny (model prog w) A (.compLoop (.ListComp elt gens sc pos) d it acc env) R s := by
 refine codeAny_loop rfl I (fun n s hI => ?_) n h
 show wpAny _ A ((compTurn (.ListComp elt gens sc pos) d it acc env).onRaise (fun x => do noteFrame x env; theTreesLotGoes x)) _ _ s
 refine wpAny_noted ?_
 rw [compTurn_gen hg hn ha]
 refine wpAny_bind (wpAny_standAt (wpAny_bind (wpAny_mono (turn n s hI (again (.compLoop (.ListComp elt gens sc pos) d it acc env)) fun m s' hm hI' => wpAny_pure ⟨rfl, m, hm, hI'⟩) (fun r s₁ h₁ => ?_) fun z1 z2 h' => h'.elim)))
 cases r with
 | none => exact wpAny_pure h₁
 | some v =>
  refine wpAny_bind (wpAny_mono h₁ (fun z1 s₂ h₂ => ?_) fun z1 z2 h' => h'.elim)
  refine wpAny_bind (wpAny_mono h₂ (fun z1 s₃ h₃ => ?_) fun z1 z2 h' => h'.elim)
  refine wpAny_bind (wpAny_mono h₃ (fun ok s₄ h₄ => ?_) fun z1 z2 h' => h'.elim)
  cases ok with
  | false => exact wpAny_pure ⟨rfl, h₄⟩
  | true => exact wpAny_mono h₄ (fun fin s' q => q) fun z1 z2 f => f.elim
end
end Rs.Internal
end
section
set_option tactic.hygienic false
open PySem PySem.Calls PyProof.Rows PySem.SeqAt PySem.Builtin.Str
namespace Rs.Internal
section
variable {prog : Program} {w : World} {A : Around} {s : Shared} {O W wr : List Addr} {t : PySem.Expr} {I : Addr} {Mid : List PV → Value → Heap → Prop} {St : List PV → Heap → Prop} {p : PV} {l : List PV}
theorem Itr.step {Q : Option Value → Shared → Prop} {E : Value → Shared → Prop} (K : Itr prog w A t I O W wr Mid St) (al : Alive O s.heap) (st : St (p :: l) s.heap)
  (h : ∀ v s', Ch wr s s' → Rel O s'.heap p v → Mid l v s'.heap → Alive wr s'.heap → Q (some v) s') : wpAny (model prog w) A (pyNext (.ref I)) Q E s :=
 wpAny_mono (wpAny_toks_of (Nat.le_refl s.toks) (K.item p l s (fun r s' => ∃ v, r = some v ∧ (∃ h' tk, s' = { s with heap := h', toks := tk } ∧ Agree wr s.heap h') ∧ Rel O s'.heap p v ∧ Mid l v s'.heap ∧ Alive wr s'.heap) (fun z1 z2 => False) al st
  fun v h' tk a b c d => ⟨v, rfl, ⟨h', tk, rfl, c⟩, a, b, d⟩)) (fun r s' ⟨tk, v, e, a, b, c, d⟩ => by subst e; exact h v s' ⟨a, tk⟩ b c d) fun z1 z2 f => f.2.elim
theorem Itr.goes {v : Value} {Q : Unit → Shared → Prop} {E : Value → Shared → Prop} (K : Itr prog w A t I O W wr Mid St) (hr : Rel O s.heap p v) (st : Mid l v s.heap)
  (h : ∀ s', Ch wr s s' → Rel O s'.heap p v → St l s'.heap → Alive wr s'.heap → Q () s') : wpAny (model prog w) A (letOwnedTupleGo t (.ref I) v) Q E s :=
 K.go p l v s Q E hr st fun h' a b c d => h _ ⟨⟨h', s.toks, rfl, c⟩, Nat.le_refl _⟩ a b d
theorem Itr.ends {Q : Option Value → Shared → Prop} {E : Value → Shared → Prop} (K : Itr prog w A t I O W wr Mid St) (st : St [] s.heap)
  (h : ∀ s', Ch wr s s' → Q none s') : wpAny (model prog w) A (pyNext (.ref I)) Q E s :=
 wpAny_mono (wpAny_toks_of (Nat.le_refl s.toks) (K.done s (fun r s' => r = none ∧ (∃ h' tk, s' = { s with heap := h', toks := tk } ∧ Agree wr s.heap h')) (fun z1 z2 => False) st
  fun h' tk a => ⟨rfl, h', tk, rfl, a⟩)) (fun r s' ⟨tk, e, a⟩ => by subst e; exact h s' ⟨a, tk⟩) fun z1 z2 f => f.2.elim
end
noncomputable def NoOwn (σ : Store) : Prop := ∀ i l, getS σ i ≠ .own l
theorem NoOwn.clr {σ : Store} (x : NoOwn σ) (is : List Nat) : NoOwn (Rs.Internal.clr is σ) := fun i l => by
 rw [getS_clr]; split
 ·exact fun z => Slot.dif z rfl
 ·exact x i l
theorem NoOwn.setS {σ : Store} (x : NoOwn σ) (i : Nat) (p : PV) : NoOwn (Rs.Internal.setS σ i p) := fun j l => by
 unfold Rs.Internal.setS; rw [getS_set]; split
 ·exact fun z => Slot.dif z rfl
 ·exact x j l
theorem NoOwn.setAll : ∀ {l : List (Nat × PV)} {σ : Store}, NoOwn σ → NoOwn (Rs.Internal.setAll σ l)
 | [], z1, x => x
 | a :: l, z1, x => NoOwn.setAll (l := l) (x.setS a.1 a.2)
theorem bind_inv {σ σ' : Store} {one : Bool} {tg : List Nat} {v : PV} (h : bindTg one tg v σ = some σ') : (∃ i, tg = [i] ∧ σ' = Rs.Internal.setS σ i v) ∨ ∃ vs, σ' = Rs.Internal.setAll σ (tg.zip vs) := by
 rcases ito h with ⟨_, h⟩ | ⟨_, h⟩
 ·cases tg with
  | nil => exact nope h
  | cons i r => cases r with
   | nil => (obtain rfl := oi h; clear h); exact .inl ⟨i, rfl, rfl⟩
   | cons z1 z2 => exact nope h
 ·replace h := bnd h
  obtain ⟨vs, _, h⟩ := h
  replace h := itp h
  obtain ⟨_, h⟩ := h
  (obtain rfl := oi h; clear h); exact .inr ⟨vs, rfl⟩
theorem NoOwn.bind {σ σ' : Store} {one : Bool} {tg : List Nat} {v : PV} (x : NoOwn σ) (h : bindTg one tg v σ = some σ') : NoOwn σ' := by
 rcases bind_inv h with ⟨i, rfl, rfl⟩ | ⟨vs, rfl⟩
 ·exact x.setS _ _
 ·exact x.setAll
theorem getS_setAll : ∀ (l : List (Nat × PV)) (σ : Store) (j : Nat), j ∉ l.map (·.1) → getS (setAll σ l) j = getS σ j := by
 intro l
 induction l with
 | nil =>
  intro _ _ _
  exact rfl
 | cons a l ih__ =>
  intro σ j h
  show getS (setAll (setS σ a.1 a.2) l) j = _
  rw [ih__ _ j (fun m => h (by simp [m]))]
  unfold setS
  rw [getS_set, if_neg (fun e => h (by simp [e.1]))]
theorem len_setAll : ∀ (l : List (Nat × PV)) (σ : Store), (setAll σ l).length = σ.length := by
 intro l
 induction l with
 | nil =>
  intro _
  exact rfl
 | cons a l ih__ =>
  intro σ
  show (setAll (setS σ a.1 a.2) l).length = _; rw [ih__]; simp [setS]
theorem getS_bind {σ σ' : Store} {one : Bool} {tg : List Nat} {v : PV} (h : bindTg one tg v σ = some σ') {j : Nat} (hj : j ∉ tg) : getS σ' j = getS σ j := by
 rcases bind_inv h with ⟨i, rfl, rfl⟩ | ⟨vs, rfl⟩
 ·unfold setS
  rw [getS_set, if_neg (fun e => hj (by simp [e.1]))]
 ·refine getS_setAll _ _ _ fun m => hj ?_
  obtain ⟨x, hx, rfl⟩ := List.mem_map.mp m
  exact (List.of_mem_zip hx).1
theorem len_bind {σ σ' : Store} {one : Bool} {tg : List Nat} {v : PV} (h : bindTg one tg v σ = some σ') : σ'.length = σ.length := by
 rcases bind_inv h with ⟨i, rfl, rfl⟩ | ⟨vs, rfl⟩
 ·simp [setS]
 ·exact len_setAll _ _
section
variable (prog : Program) (w : World) (A : Around) (G : Gl) (φ : Nat → List PV → Option PV) (hb : Heap)
noncomputable def ElOk (cx : Cx) (env : Env) (e : PySem.Expr) (x : X) : Prop := ∀ O σ s p, Ok hb cx env O σ s → evX G φ x σ = some p → Ev prog w A O (eval e env) p s
noncomputable def IfsOk (cx : Cx) (env : Env) (es : List PySem.Expr) (x : Xs) : Prop := ∀ O σ s b, Ok hb cx env O σ s → evIfs G φ x σ = some b → EvB prog w A (testsOf es env) b s
noncomputable def IterVal (hp : Heap) (b : Bool) (O : List Addr) (t : PySem.Expr) (v : Value) (l : List PV) (s : Shared) : Prop :=
 ∀ (Q : Value → Shared → Prop) (E : Value → Shared → Prop), (∀ I wr s₁, Kp s s₁ → I ∈ wr → (∀ a ∈ wr, hp.get? a = none) → Alive wr s₁.heap →
  (∀ O' W h', (∀ a ∈ O', a ∈ O ∨ a ∈ wr ∨ s.heap.get? a = none) → (∀ a ∈ wr, a ∈ O') → (∀ a ∈ W, a ∈ O') → (∀ a ∈ wr, a ∉ W) → (∀ a ∈ W, s.heap.get? a = none ∨ (b = true ∧ a ∈ O)) → Above s₁.heap h' →
   ∃ Mid St, Itr prog w A t I O' W wr Mid St ∧ St l h') → Q (.ref I) s₁) → wpAny (model prog w) A (pyIter v) Q E s
noncomputable def IterOk (cx : Cx) (env : Env) (e : PySem.Expr) (it : It) (t : PySem.Expr) : Prop := ∀ O σ s l, Ok hb cx env O σ s → evIt G φ it σ = some l →
 wpAny (model prog w) A (eval e env) (fun v s' => Kp s s' ∧ IterVal prog w A s.heap cx.own.isEmpty O t v l s') (fun z1 z2 => False) s
variable (elt : PySem.Expr) (gens : List Comprehension) (sc : Scope) (pos : Pos) (cx : Cx) (cenv : Env) (D : Addr)
inductive GsS : Nat → Gs → Prop where
 | fin (d : Nat) (x : X) : gens[d + 1]? = none → ElOk prog w A G φ hb cx cenv elt x → GsS d (.fin x)
 | cons (d : Nat) (t iter : PySem.Expr) (ifs : List PySem.Expr) (tg : List Nat) (one : Bool) (it : It) (ifs' : Xs) (r : Gs) : gens[d + 1]? = some ⟨t, iter, ifs, 0⟩ → Tg [cenv.locals] cenv cx.nm t one tg →
   IterOk prog w A G φ hb cx cenv iter it t → (∀ x, foldedSetIterable iter cenv x = pure x) → IfsOk prog w A G φ hb cx cenv ifs ifs' → GsS (d + 1) r → GsS d (.cons tg one it ifs' r)
noncomputable def RestOk (d : Nat) (r : Gs) : Prop := ∀ (O : List Addr) (σ : Store) (ys out : List PV) (vs : List Value) (s : Shared) (k : Sem Fin) (Q : Fin → Shared → Prop), Ok hb cx cenv O σ s → NoOwn σ → D ∈ O → IsLst s.heap D vs → RelL O s.heap ys vs →
 evGs G φ r σ = some out → ys.length + out.length ≤ LIM →
 (∀ s', Ch [cenv.locals, D] s s' → Ok hb cx cenv O (clr r.tgs σ) s' → (∃ vs', IsLst s'.heap D vs' ∧ RelL O s'.heap (ys ++ out) vs') → wpAny (model prog w) A k Q (fun z1 z2 => False) s') →
 wpAny (model prog w) A (restThen elt gens sc pos d (.ref D) cenv gens[d + 1]? k) Q (fun z1 z2 => False) s
end
end Rs.Internal
end
section
set_option tactic.hygienic false
open PySem PySem.Calls PyProof.Rows PySem.SeqAt PySem.Builtin.Str
namespace Rs.Internal
section
variable {prog : Program} {w : World} {A : Around} {G : Gl} {φ : Nat → List PV → Option PV} {hb : Heap} {cx : Cx} {env : Env} {O S : List Addr} {σ σ' : Store} {s s' : Shared}
theorem Above.ch (b : Above hb s.heap) (c : Ch S s s') (hS : ∀ a ∈ S, hb.get? a = none) : Above hb s'.heap := fun a o e =>
 c.agree a o (fun m => by rw [hS a m] at e; exact nope e) (b a o e)
theorem Ok.ch (k : Ok hb cx env O σ s) (c : Ch S s s') (r : Rds O env cx.nm σ' s'.heap) (al : Alive O s'.heap) (hS : ∀ a ∈ S, hb.get? a = none) : Ok hb cx env O σ' s' where
 eo := k.eo
 fw := k.fw
 rds := r
 al := al
 base := k.base.ch c hS
 tok := Nat.le_trans k.tok c.2
theorem Ok.weaken (k : Ok hb cx env O σ s) (hl : σ'.length = σ.length) (hs : ∀ i, getS σ' i = .no ∨ getS σ' i = getS σ i) : Ok hb cx env O σ' s where
 eo := k.eo
 fw := k.fw
 rds := k.rds.weaken hl hs
 al := k.al
 base := k.base
 tok := k.tok
theorem Ok.clr (k : Ok hb cx env O σ s) (is : List Nat) : Ok hb cx env O (clr is σ) s where
 eo := k.eo
 fw := k.fw
 rds := k.rds.clr is
 al := k.al
 base := k.base
 tok := k.tok
theorem compLoop_nil {f : PV → Option (List PV)} {out : List PV} (h : compLoop f [] = some out) : out = [] := by
 exact (oi h).symm
theorem compLoop_cons {f : PV → Option (List PV)} {v : PV} {r out : List PV} (h : compLoop f (v :: r) = some out) : ∃ a b, f v = some a ∧ compLoop f r = some b ∧ out = a ++ b := by
 obtain ⟨a, ha, h⟩ := bnd h
 obtain ⟨b, hb, h⟩ := bnd h
 exact ⟨a, b, ha, hb, (oi h).symm⟩
variable {elt : PySem.Expr} {gens : List Comprehension} {sc : Scope} {pos : Pos} {cenv : Env} {D : Addr}
noncomputable def levF (G : Gl) (φ : Nat → List PV → Option PV) (one : Bool) (tg : List Nat) (ifs' : Xs) (r : Gs) (σ : Store) : PV → Option (List PV) := fun v => do
 let σ'' ← bindTg one tg v (clr (tg ++ r.tgs) σ)
 let t ← evIfs G φ ifs' σ''
 if t then evGs G φ r σ'' else some []
theorem comp_level {d : Nat} {t iter : PySem.Expr} {ifs : List PySem.Expr} {tg : List Nat} {one : Bool} {ifs' : Xs} {r : Gs} (hh : A.handled = none) (hg : gens[d]? = some ⟨t, iter, ifs, 0⟩)
  (T : Tg [cenv.locals] cenv cx.nm t one tg) (hifs : IfsOk prog w A G φ hb cx cenv ifs ifs') (hrest : RestOk prog w A G φ hb elt gens sc pos cx cenv D d r) (ha : ∀ g, gens[d + 1]? = some g → g.is_async = 0)
  (hC : hb.get? cenv.locals = none) (hDh : hb.get? D = none)
  {I : Addr} {wr : List Addr} {Mid : List PV → Value → Heap → Prop} {St : List PV → Heap → Prop} (K : Itr prog w A t I O [cenv.locals, D] wr Mid St) (hwO : ∀ a ∈ wr, a ∈ O) (hDO : D ∈ O) (hCw : cenv.locals ∉ wr) (hDw : D ∉ wr)
  (hcw : ∀ x c, cenv.cells.lookup x = some c → c ∉ wr) (hwb : ∀ a ∈ wr, hb.get? a = none)
  {l : List PV} {σ : Store} {ys out : List PV} {vs : List Value} {s : Shared} (hOk : Ok hb cx cenv O (clr (tg ++ r.tgs) σ) s) (hno : NoOwn σ) (hst : St l s.heap) (hD : IsLst s.heap D vs) (hys : RelL O s.heap ys vs)
  (hev : compLoop (levF G φ one tg ifs' r σ) l = some out) (hfit : ys.length + out.length ≤ LIM) {R : Result → Shared → Prop}
  (hR : ∀ s', Ch ([cenv.locals, D] ++ wr) s s' → Rds O cenv cx.nm (clr (tg ++ r.tgs) σ) s'.heap → (∃ vs', IsLst s'.heap D vs' ∧ RelL O s'.heap (ys ++ out) vs') → R (.ok .next) s') :
  codeAny (model prog w) A (.compLoop (.ListComp elt gens sc pos) d (.ref I) (.ref D) cenv) R s := by
 have hCO : cenv.locals ∈ O := hOk.fw.loc
 have hWO : ∀ a ∈ [cenv.locals, D], a ∈ O := fun a m => by
  rcases List.mem_cons.mp m with rfl | m
  ·exact hCO
  ·rw [List.mem_singleton.mp m]; exact hDO
 have hS : ∀ a ∈ [cenv.locals, D] ++ wr, hb.get? a = none := fun a m => by
  rcases List.mem_append.mp m with m | m
  ·rcases List.mem_cons.mp m with rfl | m
   ·exact hC
   ·rw [List.mem_singleton.mp m]; exact hDh
  ·exact hwb a m
 have hnoC : NoOwn (clr (tg ++ r.tgs) σ) := hno.clr _
 have wrRds : ∀ {h h' : Heap}, Rds O cenv cx.nm (clr (tg ++ r.tgs) σ) h → Agree wr h h' → Rds O cenv cx.nm (clr (tg ++ r.tgs) σ) h' := fun q k =>
  q.agree k hwO hCw hcw fun i x l z1 e => absurd e (hnoC i l)
 have wrLst : ∀ {h h' : Heap} {vs}, IsLst h D vs → Agree wr h h' → IsLst h' D vs := fun ⟨n, e⟩ k => ⟨n, k _ _ hDw e⟩
 refine comp_loop_rule hg rfl ha
  (fun n s' => ∃ l' ys' out' vs', l'.length = n ∧ Ch ([cenv.locals, D] ++ wr) s s' ∧ Ok hb cx cenv O (clr (tg ++ r.tgs) σ) s' ∧ St l' s'.heap ∧ IsLst s'.heap D vs' ∧ RelL O s'.heap ys' vs' ∧
   compLoop (levF G φ one tg ifs' r σ) l' = some out' ∧ ys' ++ out' = ys ++ out) ?_ l.length ⟨l, ys, out, vs, rfl, Ch.refl _ _, hOk, hst, hD, hys, hev, rfl⟩
 rintro n s' ⟨l', ys', out', vs', rfl, hc, ok, st, hl, hrl, he, htot⟩ again' hagain
 cases l' with
 | nil =>
  obtain rfl := compLoop_nil he
  refine K.ends st fun s₁ c₁ => ?_
  refine hR s₁ (hc.trans (c₁.mono fun a m => List.mem_append_right _ m)) (wrRds ok.rds c₁.agree) ⟨vs', wrLst hl c₁.agree, ?_⟩
  rw [← htot, List.append_nil]
  exact hrl.agree (c₁.agree.mono hwO)
 | cons p l' =>
  refine cps fun PP kk => ?_
  obtain ⟨o₁, o₂, hf, he', ee1⟩ := compLoop_cons he
  refine kk ?_
  clear kk PP
  subst ee1
  simp only [levF, Option.bind_eq_bind, Option.bind_eq_some_iff] at hf
  refine cps fun PP kk => ?_
  obtain ⟨σ₂, hbind, b, hif, hgs⟩ := hf
  refine kk ?_
  clear kk PP
  refine K.step ok.al st fun v s₁ c₁ hv hm hal => ?_
  refine K.goes hv hm fun s₂ c₂ hv₂ hst₂ hal₂ => ?_
  have c12 : Ch wr s' s₂ := c₁.trans c₂
  have al₂ : Alive O s₂.heap := ok.al.agree c12.agree hal₂
  have r₂ := wrRds ok.rds c12.agree
  have l₂ := wrLst hl c12.agree
  have rl₂ := hrl.agree (c12.agree.mono hwO)
  refine tg_assign T hh ok.fw (by simpa using hCO) r₂ al₂ hbind hv₂ fun s₃ c₃ al₃ r₃ => ?_
  have c3' : Ch [cenv.locals, D] s₂ s₃ := c₃.mono (by simp)
  have hCD : D ≠ cenv.locals := fun e => by
   refine cps fun PP kk => ?_
   obtain ⟨m, o, es, ep, e1, e2, _⟩ := r₂.ns
   refine kk ?_
   clear kk PP
   obtain ⟨k, e3⟩ := l₂
   rw [e] at e3
   rw [e1] at e3; (obtain rfl := oi e3; clear e3); cases e2
  have l₃ : IsLst s₃.heap D vs' := let ⟨k, e⟩ := l₂; ⟨k, c₃.agree _ _ (by simpa using hCD) e⟩
  have rl₃ := rl₂.agree (c3'.agree.mono hWO)
  have c13 : Ch ([cenv.locals, D] ++ wr) s' s₃ := (c12.mono fun a m => List.mem_append_right _ m).trans (c3'.mono fun a m => List.mem_append_left _ m)
  have ok₃ : Ok hb cx cenv O σ₂ s₃ := ok.ch c13 r₃ al₃ hS
  refine (hifs O σ₂ s₃ b ok₃ hif).use fun s₄ k₄ => ?_
  have ok₄ := ok₃.later k₄
  have l₄ := l₃.above k₄.above
  have rl₄ := rl₃.above k₄.above
  have c24 : Ch [cenv.locals, D] s₂ s₄ := c3'.trans k₄.ch
  have c04 : Ch ([cenv.locals, D] ++ wr) s s₄ := hc.trans (c13.trans k₄.ch)
  cases b with
  | false =>
   simp only [Bool.false_eq_true, if_false] at hgs ⊢
   obtain rfl := oi hgs
   refine ⟨l'.length, by simp, l', ys', o₂, vs', rfl, c04, ok₄.weaken (by rw [len_bind hbind]) fun i => ?_, K.frame _ _ _ hst₂ c24.agree, l₄, rl₄, he', by simpa using htot⟩
   by_cases hi : i ∈ tg ++ r.tgs
   ·exact .inl (by rw [getS_clr, if_pos hi])
   ·exact .inr (getS_bind hbind (fun m => hi (List.mem_append_left _ m))).symm
  | true =>
   simp only [if_true] at hgs ⊢
   refine hrest O σ₂ ys' o₁ vs' s₄ again' _ ok₄ (hnoC.bind hbind) hDO l₄ rl₄ hgs ?_ fun s₅ c₅ ok₅ ⟨vs₅, l₅, rl₅⟩ => ?_
   ·have := congrArg List.length htot
    simp only [List.length_append] at this
    lia
   ·refine hagain l'.length s₅ (by simp) ⟨l', ys' ++ o₁, o₂, vs₅, rfl, c04.trans (c₅.mono fun a m => List.mem_append_left _ m), ok₅.weaken (by rw [len_clr, len_clr, len_bind hbind, len_clr]) fun i => ?_,
     K.frame _ _ _ hst₂ (c24.trans c₅).agree, l₅, rl₅, he', by rw [List.append_assoc]; exact htot⟩
    by_cases hi : i ∈ tg ++ r.tgs
    ·exact .inl (by rw [getS_clr, if_pos hi])
    ·exact .inr (by rw [getS_clr _ σ₂, if_neg (fun m => hi (List.mem_append_right _ m)), getS_bind hbind (fun m => hi (List.mem_append_left _ m))])
end
end Rs.Internal
end
section
set_option tactic.hygienic false
open PySem PySem.Calls PyProof.Rows PySem.SeqAt PySem.Builtin.Str
namespace Rs.Internal
mutual
theorem Rel.wide {O O' : List Addr} {h : Heap} (hs : ∀ a ∈ O', a ∈ O ∨ h.get? a = none) : ∀ (p : PV) (v : Value), Rel O h p v → Rel O' h p v
 | .none, z1, x => x
 | .bool z1, z2, x => x
 | .int z1, z2, x => x
 | .str z1, z2, x => x
 | .tup l, z1, x => by
  obtain ⟨a, vs, rfl, ha, ht, hl⟩ := x
  exact ⟨a, vs, rfl, fun m => (hs a m).elim ha fun q => (by obtain ⟨_, e⟩ := ht; rw [q] at e; exact nope e), ht, RelL.wide hs l vs hl⟩
 | .lst l, z1, x => by
  obtain ⟨a, vs, rfl, ha, ht, hl⟩ := x
  exact ⟨a, vs, rfl, fun m => (hs a m).elim ha fun q => (by obtain ⟨_, e⟩ := ht; rw [q] at e; exact nope e), ht, RelL.wide hs l vs hl⟩
 | .rng lo n st, z1, x => by
  obtain ⟨a, t1, t2, t3, rfl, ha, ht⟩ := x
  exact ⟨a, t1, t2, t3, rfl, fun m => (hs a m).elim ha fun q => (by have e : h.get? a = _ := ht; rw [q] at e; exact nope e), ht⟩
theorem RelL.wide {O O' : List Addr} {h : Heap} (hs : ∀ a ∈ O', a ∈ O ∨ h.get? a = none) : ∀ (l : List PV) (vs : List Value), RelL O h l vs → RelL O' h l vs
 | [], z1, x => x
 | p :: ps, z1, x => by
  obtain ⟨v, r, rfl, hv, hr⟩ := x
  exact ⟨v, r, rfl, Rel.wide hs p v hv, RelL.wide hs ps r hr⟩
end
theorem Rds.wide {O O' : List Addr} {env : Env} {nm : List Str} {σ : Store} {h : Heap} (hs : ∀ a ∈ O', a ∈ O ∨ h.get? a = none) (r : Rds O env nm σ h) : Rds O' env nm σ h where
 len := r.len
 ns := r.ns
 cells := r.cells
 val := fun i x p e1 e2 => let ⟨v, a, c⟩ := r.val i x p e1 e2; ⟨v, a, Rel.wide hs _ _ c⟩
 own := fun i x l e1 e2 => let ⟨a, vs, q, d, c⟩ := r.own i x l e1 e2; ⟨a, vs, q, d, RelL.wide hs _ _ c⟩
section
variable {prog : Program} {w : World} {A : Around} {G : Gl} {φ : Nat → List PV → Option PV} {hb : Heap} {cx : Cx} {env : Env} {O S wr : List Addr} {σ σ' : Store} {s s' : Shared}
theorem off_base {hb h : Heap} {a : Addr} (b : Above hb h) (ha : h.get? a = none) : hb.get? a = none := by
 cases e : hb.get? a with
 | none => rfl
 | some o => rw [b a o e] at ha; cases ha
theorem Ok.wide (k : Ok hb cx env O σ s) (kp : Kp s s') (hw : ∀ a ∈ wr, s.heap.get? a = none) (al : Alive wr s'.heap) : Ok hb cx env (wr ++ O) σ s' where
 eo := k.eo
 fw := k.fw.mono fun a m => List.mem_append_right _ m
 rds := (k.rds.wide fun a m => by
  rcases List.mem_append.mp m with m | m
  ·exact .inr (hw a m)
  ·exact .inl m).above kp.above
 al := fun a m => by
  rcases List.mem_append.mp m with m | m
  ·exact al a m
  ·exact k.al.above kp.above a m
 base := k.base.trans kp.above
 tok := Nat.le_trans k.tok kp.2
variable {elt : PySem.Expr} {gens : List Comprehension} {sc : Scope} {pos : Pos} {cenv : Env} {D : Addr}
theorem rds_d {nm : List Str} {vs : List Value} {h h' : Heap} (r : Rds O cenv nm σ h) (no : NoOwn σ) (hD : IsLst h D vs) (hDO : D ∈ O) (k : Agree [D] h h') : Rds O cenv nm σ h' := by
 obtain ⟨n, eD⟩ := hD
 refine r.agree k (by simpa using hDO) ?_ ?_ fun i x l z1 e => absurd e (no i l)
 ·intro m
  rw [List.mem_singleton] at m
  obtain ⟨m', o, es, ep, e1, e2, _⟩ := r.ns
  rw [m] at e1; rw [eD] at e1; (obtain rfl := oi e1; clear e1); cases e2
 ·intro x c e m
  rw [List.mem_singleton] at m
  obtain ⟨v, o, e1, e2⟩ := r.cells x c e
  rw [m] at e1; rw [eD] at e1; (obtain rfl := oi e1; clear e1); cases e2
theorem rest_ok (hh : A.handled = none) (hC : hb.get? cenv.locals = none) (hDh : hb.get? D = none) (hown : cx.own = []) : ∀ {d : Nat} {r : Gs}, GsS prog w A G φ hb elt gens cx cenv d r → RestOk prog w A G φ hb elt gens sc pos cx cenv D d r := by
 intro d r H
 induction H with
 | fin d x hn hel =>
  intro O σ ys out vs s k Q ok no hDO hl hrl hev hfit hk
  obtain ⟨p, hp, rfl⟩ := mpd hev
  rw [hn]
  refine wpAny_bind (wpAny_bind ((hel O σ s p ok hp).use fun v s₁ k₁ r₁ => wpAny_bind ?_))
  have l₁ := hl.above k₁.above
  have rl₁ := hrl.above k₁.above
  refine wpAny_list_append_plain l₁.plain (fun h' pl sb => wpAny_pure ?_) ?_
  ·have l₂ : IsLst h' D (vs ++ [v]) := by
    obtain ⟨n, e⟩ := pl
    exact ⟨n, by rw [e]; simp⟩
   have ag : Agree [D] s₁.heap h' := fun b o hb e => sb.extBut b o (by simpa using hb) e
   have c₂ : Ch [cenv.locals, D] s { s₁ with heap := h' } := (k₁.ch).trans ⟨⟨h', s₁.toks, rfl, ag.mono (by simp)⟩, Nat.le_refl _⟩
   have ok₁ := ok.later k₁
   refine hk _ c₂ ?_ ⟨vs ++ [v], l₂, ?_⟩
   ·refine ok.ch c₂ (rds_d ok₁.rds no l₁ hDO ag) (ok₁.al.agree ag fun b m => by rw [List.mem_singleton.mp m]; obtain ⟨n, e⟩ := l₂; exact ⟨_, e⟩) fun a m => ?_
    rcases List.mem_cons.mp m with rfl | m
    ·exact hC
    ·rw [List.mem_singleton.mp m]; exact hDh
   ·exact (rl₁.agree (ag.mono (by simpa using hDO))).append ⟨v, [], rfl, r₁.agree (ag.mono (by simpa using hDO)), rfl⟩
  ·refine fit_line ?_
   rw [List.size_toArray, ← rl₁.length]
   have hL : LIM = 1048576 := rfl
   simp at hfit; lia
 | cons d t iter ifs tg one it ifs' r hg T hit hset hifs hr ih =>
  intro O σ ys out vs s k Q ok no hDO hl hrl hev hfit hk
  replace hev := bnd hev
  obtain ⟨vals, hvals, hev⟩ := hev
  rw [hg]
  refine wpAny_bind (wpAny_mono (hit O σ s vals ok hvals) (fun v s₁ q => ?_) fun z1 z2 f => f.elim)
  obtain ⟨k₁, hiv⟩ := q
  refine wpAny_bind (wpAny_standAt (wpAny_bind (wpAny_of_eq (hset v) (wpAny_bind (wpAny_holding (hiv _ _ fun I wr s₂ k₂ hI hwr hal hK => ?_))))))
  have k12 := k₁.trans k₂
  have okW : Ok hb cx cenv (wr ++ O) σ s₂ := ok.wide k12 hwr hal
  have hCO := ok.fw.loc
  have notwr : ∀ a ∈ O, a ∉ wr := fun a m m' => by obtain ⟨o, e⟩ := ok.al a m; rw [hwr a m'] at e; exact nope e
  have hWO : ∀ a ∈ [cenv.locals, D], a ∈ O := fun a m => by
   rcases List.mem_cons.mp m with rfl | m
   ·exact hCO
   ·rw [List.mem_singleton.mp m]; exact hDO
  obtain ⟨Mid, St, K, hst⟩ := hK (wr ++ O) [cenv.locals, D] s₂.heap (fun a m => (List.mem_append.mp m).elim (fun m => Or.inr (Or.inl m)) Or.inl) (fun a m => List.mem_append_left _ m) (fun a m => List.mem_append_right _ (hWO a m))
   (fun a m m' => notwr a (hWO a m') m) (fun a m => .inr ⟨by rw [hown]; rfl, hWO a m⟩) (Above.refl _)
  have wd : ∀ a ∈ wr ++ O, a ∈ O ∨ s.heap.get? a = none := fun a m => (List.mem_append.mp m).elim (fun m => Or.inr (hwr a m)) Or.inl
  have loop : codeAny (model prog w) A (.compLoop (.ListComp elt gens sc pos) (d + 1) (.ref I) (.ref D) cenv) (fun r s' => match r with
    | .ok f => wpAny (model prog w) A k Q (fun z1 z2 => False) s'
    | .error e => cameBackBy (model prog w) A cenv (fun z1 z2 => False) e s') s₂ := by
   refine comp_level hh hg T hifs ih (fun g hg' => ?_) hC hDh K (fun a m => List.mem_append_left _ m) (List.mem_append_right _ hDO) (notwr _ hCO) (notwr _ hDO) (fun x c e m => ?_) (fun a m => ?_) (okW.clr (tg ++ r.tgs)) no hst (hl.above k12.above)
    ((RelL.wide wd _ _ hrl).above k12.above) hev hfit fun s' c' rds' ⟨vs', l', rl'⟩ => ?_
   ·cases hr with
    | fin z1 z2 hn z3 => rw [hn] at hg'; exact nope hg'
    | cons z1 z2 z3 z4 z5 z6 z7 z8 z9 hg2 => rw [hg2] at hg'; (obtain rfl := oi hg'; clear hg'); rfl
   ·obtain ⟨v, o, e1, e2⟩ := ok.rds.cells x c e
    rw [hwr c m] at e1; exact nope e1
   ·exact off_base ok.base (hwr a m)
   ·have c'' : Ch [cenv.locals, D] s s' := (Ch.drop (wr := wr) ((k12.ch).trans c') hwr)
    refine hk s' c'' (ok.ch c'' (rds'.mono fun a m => List.mem_append_right _ m) ?_ fun a m => ?_) ⟨vs', l', RelL.mono (fun a m => List.mem_append_right _ m) _ _ rl'⟩
    ·refine ok.al.agree c''.agree fun a m => ?_
     rcases List.mem_cons.mp m with rfl | m
     ·obtain ⟨m', o, es, ep, e1, _⟩ := rds'.ns; exact ⟨_, e1⟩
     ·rw [List.mem_singleton.mp m]; obtain ⟨n, e⟩ := l'; exact ⟨_, e⟩
    ·rcases List.mem_cons.mp m with rfl | m
     ·exact hC
     ·rw [List.mem_singleton.mp m]; exact hDh
  refine wpAny_bind (wpAny_runOwn ?_)
  rw [Around.mark_none]
  refine compStart_gen hg loop (K.self _ _ _ _ hst loop)
end
end Rs.Internal
end
section
set_option tactic.hygienic false
open PySem PySem.Calls PyProof.Rows PySem.SeqAt PySem.Builtin.Str
namespace Rs.Internal
noncomputable def clos (cells : List (Str × Addr)) : List (Str × NameKind) → List (Str × Addr) → List (Str × Addr)
 | [], acc => acc
 | (x, k) :: r, acc => if k == .free then clos cells r ((x, (cells.lookup x).getD 0) :: acc) else clos cells r acc
theorem clos_c {cells : List (Str × Addr)} {x : Str} {k : NameKind} {r : List (Str × NameKind)} {acc : List (Str × Addr)} : clos cells ((x, k) :: r) acc = if k == .free then clos cells r ((x, (cells.lookup x).getD 0) :: acc) else clos cells r acc := rfl
set_option tactic.hygienic true in
theorem clos_eq {env : Env} (f : Str × NameKind → List (Str × Addr) → Sem (ForInStep (List (Str × Addr))))
  (hf : ∀ x k cs, f (x, k) cs = if k == .free then (do let c ← cellOf env x; pure (.yield ((x, c) :: cs))) else pure (.yield cs)) :
  ∀ (names : List (Str × NameKind)) (acc : List (Str × Addr)), (∀ x ∈ names, x.2 = .free → ∃ c, env.cells.lookup x.1 = some c) → forIn names acc f = (pure (clos env.cells names acc) : Sem (List (Str × Addr)))
 | [], acc, z1 => by rw [List.forIn_nil]; rfl
 | (x, k) :: r, acc, h => by
  rw [List.forIn_cons, hf]
  rw [clos_c]
  split
  ·rename_i hk
   obtain ⟨c, hc⟩ := h (x, k) (by simp) (by simpa using hk)
   rw [show cellOf env x = pure c by unfold cellOf; rw [hc]]
   show forIn r ((x, c) :: acc) f = _
   rw [clos_eq f hf r _ fun y hy => h y (by simp [hy]), hc]; rfl
  ·show forIn r acc f = _
   rw [clos_eq f hf r _ fun y hy => h y (by simp [hy])]
theorem closureFor_eq {scope : Scope} {env : Env} (h : ∀ x ∈ scope.names, x.2 = .free → ∃ c, env.cells.lookup x.1 = some c) : closureFor scope env = pure (clos env.cells scope.names []) := by
 simp only [closureFor]
 rw [clos_eq (env := env) _ (fun x k cs => by cases hk : k == NameKind.free <;> simp [hk]) _ _ h]
 rfl
set_option tactic.hygienic true in
theorem clos_mem {cells : List (Str × Addr)} : ∀ {names : List (Str × NameKind)} {acc : List (Str × Addr)} {x : Str} {c : Addr}, (x, c) ∈ clos cells names acc → (x, c) ∈ acc ∨ ((x, .free) ∈ names ∧ c = (cells.lookup x).getD 0)
 | [], acc, x, c, h => .inl h
 | (y, k) :: r, acc, x, c, h => by
  rw [clos_c] at h
  split at h
  ·rename_i hk
   rw [beq_iff_eq] at hk; subst hk
   rcases clos_mem h with h | ⟨h1, h2⟩
   ·rcases List.mem_cons.mp h with e | h
    ·cases e; exact .inr ⟨by simp, rfl⟩
    ·exact .inl h
   ·exact .inr ⟨by simp [h1], h2⟩
  ·rcases clos_mem h with h | ⟨h1, h2⟩
   ·exact .inl h
   ·exact .inr ⟨by simp [h1], h2⟩
theorem clos_sub {cells : List (Str × Addr)} : ∀ {names : List (Str × NameKind)} {acc : List (Str × Addr)}, ∀ z ∈ acc, z ∈ clos cells names acc
 | [], acc, z, h => h
 | (y, k) :: r, acc, z, h => by
  rw [clos_c]
  split
  ·exact clos_sub z (by simp [h])
  ·exact clos_sub z h
theorem clos_has {cells : List (Str × Addr)} : ∀ {names : List (Str × NameKind)} {acc : List (Str × Addr)} {x : Str}, (x, .free) ∈ names → (x, (cells.lookup x).getD 0) ∈ clos cells names acc
 | (y, k) :: r, acc, x, h => by
  rw [clos_c]
  rcases List.mem_cons.mp h with e | h
  ·cases e
   rw [if_pos (by rfl)]
   exact clos_sub _ (by simp)
  ·split
   ·exact clos_has h
   ·exact clos_has h
theorem lookup_of_mem {α : Type} {l : List (Str × α)} {x : Str} {c : α} (h : (x, c) ∈ l) : ∃ d, l.lookup x = some d := by
 cases e : l.lookup x with
 | some d => exact ⟨d, rfl⟩
 | none =>
  rw [List.lookup_eq_none_iff] at e
  have := e (x, c) h
  simp at this
theorem clos_lookup {cells : List (Str × Addr)} {names : List (Str × NameKind)} {x : Str} {c : Addr} (h : (clos cells names []).lookup x = some c) : (x, .free) ∈ names ∧ c = (cells.lookup x).getD 0 := by
 rcases clos_mem (mem_of_lookup h) with h | h
 ·cases h
 ·exact h
set_option tactic.hygienic true in
theorem clos_apart {cells : List (Str × Addr)} (hp : cells.Pairwise fun x y => x.2 ≠ y.2) : ∀ {names : List (Str × NameKind)} {acc : List (Str × Addr)}, (names.map (·.1)).Nodup → (∀ x ∈ names, x.2 = .free → ∃ c, cells.lookup x.1 = some c) →
  acc.Pairwise (fun x y => x.2 ≠ y.2) → (∀ z ∈ acc, z ∈ cells ∧ z.1 ∉ names.map (·.1)) → (clos cells names acc).Pairwise fun x y => x.2 ≠ y.2
 | [], acc, z1, z2, h, z3 => h
 | (y, k) :: r, acc, hn, hf, h, ha => by
  have hn' := List.nodup_cons.mp hn
  rw [clos_c]
  split
  ·rename_i hk
   obtain ⟨c, hc⟩ := hf (y, k) (by simp) (by simpa using hk)
   replace hc : cells.lookup y = some c := hc
   refine clos_apart hp hn'.2 (fun x hx => hf x (by simp [hx])) (List.pairwise_cons.mpr ⟨fun z hz e => ?_, h⟩) fun z hz => ?_
   ·rw [hc] at e
    obtain ⟨h1, h2⟩ := ha z hz
    have e' : c = z.2 := e
    have := name_of_addr hp (mem_of_lookup hc) (c := c) (n' := z.1) (by rw [e']; exact h1)
    exact h2 (by simp [this])
   ·rcases List.mem_cons.mp hz with rfl | hz
    ·rw [hc]; exact ⟨mem_of_lookup hc, hn'.1⟩
    ·exact ⟨(ha z hz).1, fun m => (ha z hz).2 (by simp only [List.map_cons, List.mem_cons]; exact .inr m)⟩
  ·refine clos_apart hp hn'.2 (fun x hx => hf x (by simp [hx])) h fun z hz => ⟨(ha z hz).1, fun m => (ha z hz).2 (by simp only [List.map_cons, List.mem_cons]; exact .inr m)⟩
theorem lookup_relabel {env : Env} : ∀ {names : List (Str × NameKind)} {x : Str} {k : NameKind}, names.lookup x = some k →
  (names.map fun (n, k) => if (k == NameKind.free && env.scope.kind == .function && env.kindOf n == some .cell) then (n, NameKind.cell) else (n, k)).lookup x =
   some (if (k == NameKind.free && env.scope.kind == .function && env.kindOf x == some .cell) then .cell else k)
 | [], z1, z2, h => by simp at h
 | (n, k') :: r, x, k, h => by
  show List.lookup x ((if (k' == NameKind.free && env.scope.kind == .function && env.kindOf n == some .cell) = true then (n, NameKind.cell) else (n, k')) :: _) = _
  cases hx : x == n with
  | true =>
   simp only [List.lookup_cons, hx] at h
   obtain rfl := oi h
   rw [beq_iff_eq.mp hx]
   by_cases hc : (k' == NameKind.free && env.scope.kind == .function && env.kindOf n == some .cell) = true
   ·rw [if_pos hc, if_pos hc]; simp [List.lookup_cons]
   ·rw [if_neg hc, if_neg hc]; simp [List.lookup_cons]
  | false =>
   simp only [List.lookup_cons, hx] at h
   have ih := lookup_relabel (env := env) h
   by_cases hc : (k' == NameKind.free && env.scope.kind == .function && env.kindOf n == some .cell) = true
   ·rw [if_pos hc]; simp only [List.lookup_cons, hx]; exact ih
   ·rw [if_neg hc]; simp only [List.lookup_cons, hx]; exact ih
end Rs.Internal
end
section
set_option tactic.hygienic false
open PySem PySem.Calls PyProof.Rows PySem.SeqAt PySem.Builtin.Str
namespace Rs.Internal
structure ScOk (sc : Scope) : Prop where
 kind : sc.kind = .function
 nodup : (sc.names.map (·.1)).Nodup
 nocell : ∀ x ∈ sc.names, x.2 ≠ .cell
 dbg : ∀ x ∈ sc.names, (x.1 == ("__debug__" : Str)) = false
theorem scopeOk_iff {sc : Scope} (h : scopeOk sc = true) : ScOk sc := by
 unfold scopeOk at h
 simp only [Bool.and_eq_true, beq_iff_eq, decide_eq_true_eq, List.all_eq_true, bne_iff_ne, ne_eq] at h
 obtain ⟨⟨h1, h2⟩, h3⟩ := h
 exact ⟨h1, h2, fun x hx => (h3 x hx).1, fun x hx => by simpa using (h3 x hx).2⟩
theorem same_kind {α : Type} : ∀ {l : List (Str × α)} {x : Str} {a b : α}, (l.map (·.1)).Nodup → (x, a) ∈ l → (x, b) ∈ l → a = b
 | (y, c) :: r, x, a, b, hn, ha, hb => by
  have hn' := List.nodup_cons.mp hn
  rcases List.mem_cons.mp ha with e | ha <;> rcases List.mem_cons.mp hb with e' | hb
  ·rw [← e'] at e; exact (Prod.mk.inj e).2
  ·cases e; exact absurd (List.mem_map_of_mem (f := (·.1)) hb) hn'.1
  ·cases e'; exact absurd (List.mem_map_of_mem (f := (·.1)) ha) hn'.1
  ·exact same_kind hn'.2 ha hb
theorem lookup_of_nodup {α : Type} {l : List (Str × α)} {x : Str} {a : α} (hn : (l.map (·.1)).Nodup) (h : (x, a) ∈ l) : l.lookup x = some a := by
 obtain ⟨d, hd⟩ := lookup_of_mem h
 rw [hd, same_kind hn h (mem_of_lookup hd)]
theorem mem_free {sc : Scope} {x : Str} : x ∈ freeNames sc ↔ (x, .free) ∈ sc.names := by
 unfold freeNames
 simp only [List.mem_map, List.mem_filter, beq_iff_eq]
 constructor
 ·rintro ⟨⟨y, k⟩, ⟨h1, h2⟩, h3⟩; simp only at h2 h3; subst h2; subst h3; exact h1
 ·intro h; exact ⟨_, ⟨h, rfl⟩, rfl⟩
theorem mem_local {sc : Scope} {x : Str} (h : x ∈ localNames sc) : (x, .local) ∈ sc.names := by
 unfold localNames at h
 simp only [List.mem_map, List.mem_filter, beq_iff_eq, Bool.and_eq_true] at h
 obtain ⟨⟨y, k⟩, ⟨h1, h2, _⟩, h3⟩ := h
 simp only at h2 h3; subst h2; subst h3; exact h1
theorem nm_nodup {sc : Scope} (hn : (sc.names.map (·.1)).Nodup) : (freeNames sc ++ localNames sc).Nodup := by
 rw [List.nodup_append]
 refine ⟨?_, ?_, fun x hx y hy e => ?_⟩
 ·exact List.Nodup.sublist (List.Sublist.map _ List.filter_sublist) hn
 ·exact List.Nodup.sublist (List.Sublist.map _ List.filter_sublist) hn
 ·subst e
  have := same_kind hn (mem_free.mp hx) (mem_local hy)
  cases this
section
variable {cx : Cx} {env : Env} {sc : Scope} {caps : List Nat} {O : List Addr} {C : Addr} {h h' : Heap} {σ : Store}
set_option tactic.hygienic true in
theorem slotC_some {x : Str} {i : Nat} (eo : EnvOk cx env) (h : slotC cx x = some i) : cx.nm[i]? = some x ∧ (∃ c, env.cells.lookup x = some c) ∧ (env.kindOf x = some .cell ∨ (env.kindOf x = some .free ∧ (x == ("__classdict__" : Str)) = false)) := by
 revert h
 delta slotC
 cases hk : cx.kind.lookup x with
 | none => exact fun h => nope h
 | some k =>
  cases k with
  | cell => exact fun h => ⟨idxOf?_get h, (eo.cel x hk).2, .inl (eo.cel x hk).1⟩
  | free =>
   intro h
   obtain ⟨hc, h⟩ := itn h
   obtain ⟨q, c⟩ := eo.fre x hk hc
   exact ⟨idxOf?_get h, c, q.imp_right fun q => ⟨q, hc⟩⟩
  | _ => exact fun h => nope h
noncomputable abbrev cEnv (sc : Scope) (C : Addr) (env : Env) : Env := compEnvC sc (clos env.cells sc.names []) C env
theorem caps_all (eo : EnvOk cx env) (hcap : (freeNames sc).mapM (slotC cx) = some caps) : ∀ x ∈ sc.names, x.2 = .free → ∃ c, env.cells.lookup x.1 = some c := fun x hx hf => by
 obtain ⟨y, k⟩ := x
 simp only at hf; subst hf
 obtain ⟨i, hi⟩ := mapM_all hcap y (mem_free.mpr hx)
 exact (slotC_some eo hi).2.1
theorem kind_cEnv {x : Str} {k : NameKind} (hk : sc.names.lookup x = some k) : (cEnv sc C env).kindOf x = some (if (k == NameKind.free && env.scope.kind == .function && env.kindOf x == some .cell) then .cell else k) := lookup_relabel hk
theorem envOk_c (eo : EnvOk cx env) (so : ScOk sc) (hcap : (freeNames sc).mapM (slotC cx) = some caps) : EnvOk (cxC cx sc) (cEnv sc C env) where
 kind := so.kind
 gls := eo.gls
 bis := eo.bis
 dbg := fun x k hk => so.dbg (x, k) (mem_of_lookup hk)
 glob := fun x hk => by rw [kind_cEnv hk]; rfl
 loc := fun x hk => by rw [kind_cEnv hk]; rfl
 cel := fun x hk => absurd rfl (so.nocell _ (mem_of_lookup hk))
 fre := fun x hk hc => by
  have hm : (x, NameKind.free) ∈ sc.names := mem_of_lookup hk
  refine ⟨?_, lookup_of_mem (clos_has hm)⟩
  rw [kind_cEnv hk]
  split
  ·exact .inl rfl
  ·exact .inr rfl
theorem clos_some (eo : EnvOk cx env) (hcap : (freeNames sc).mapM (slotC cx) = some caps) {x : Str} {c : Addr} (hc : (clos env.cells sc.names []).lookup x = some c) : env.cells.lookup x = some c ∧ (x, .free) ∈ sc.names := by
 obtain ⟨hm, e⟩ := clos_lookup hc
 obtain ⟨d, hd⟩ := caps_all eo hcap _ hm rfl
 replace hd : env.cells.lookup x = some d := hd
 rw [hd] at e
 exact ⟨by rw [hd, e]; rfl, hm⟩
set_option tactic.hygienic true in
theorem fw_c (eo : EnvOk cx env) (so : ScOk sc) (hcap : (freeNames sc).mapM (slotC cx) = some caps) (fw : Fw O env cx.nm) (hC : C ∈ O) (rds : Rds O env cx.nm σ h) (hlt : h.objs.size ≤ C) :
  Fw O (cEnv sc C env) (cxC cx sc).nm where
 kind := so.kind
 nodup := nm_nodup so.nodup
 loc := hC
 cel := fun x c hk hc => by
  obtain ⟨hc', hm⟩ := clos_some eo hcap hc
  rw [kind_cEnv (lookup_of_nodup so.nodup hm)] at hk
  split at hk
  ·rename_i hq
   simp only [Bool.and_eq_true, beq_iff_eq] at hq
   exact fw.cel x c hq.2 hc'
  ·cases hk
 apart := clos_apart fw.apart so.nodup (caps_all eo hcap) List.Pairwise.nil (fun z1 hm => nomatch hm)
 off := fun x c hm e => by
  rcases clos_mem hm with hm | ⟨hm, ec⟩
  ·cases hm
  ·obtain ⟨d, hd⟩ := caps_all eo hcap _ hm rfl
   replace hd : env.cells.lookup x = some d := hd
   rw [hd] at ec
   replace ec : c = d := ec
   obtain ⟨v, o, e1, _⟩ := rds.cells x d hd
   have h1 := Heap.lt_size e1
   replace e : c = C := e
   rw [← ec, e] at h1
   exact Nat.lt_irrefl _ (Nat.lt_of_lt_of_le h1 hlt)
theorem getS_caps {caps : List Nat} {σ : Store} {n i : Nat} {x : Slot} (h : getS (caps.map (fun i => capS (getS σ i)) ++ List.replicate n .no) i = x) (hx : x ≠ .no) : ∃ j, caps[i]? = some j ∧ x = capS (getS σ j) := by
 unfold getS at h
 by_cases hi : i < caps.length
 ·rw [List.getElem?_append_left (by simpa using hi), List.getElem?_map, List.getElem?_eq_getElem hi] at h
  exact ⟨_, List.getElem?_eq_getElem hi, h.symm⟩
 ·rw [List.getElem?_append_right (by simpa using hi)] at h
  by_cases hj : i - caps.length < n
  ·rw [List.length_map, List.getElem?_replicate_of_lt hj] at h; exact absurd h.symm hx
  ·rw [List.getElem?_eq_none (by simpa using hj)] at h; exact absurd h.symm hx
theorem mapM_get {α β : Type} {f : α → Option β} : ∀ {l : List α} {r : List β} {i : Nat} {b : β}, l.mapM f = some r → r[i]? = some b → ∃ a, l[i]? = some a ∧ f a = some b
 | [], r, i, b, h, hb => by simp at h; subst h; simp at hb
 | a :: l, r, i, b, h, hb => by
  rw [List.mapM_cons] at h
  simp only [Option.bind_eq_bind, Option.bind_eq_some_iff, Option.pure_def, Option.some.injEq] at h
  obtain ⟨c, hc, r', hr, rfl⟩ := h
  cases i with
  | zero => simp at hb; subst hb; exact ⟨a, rfl, hc⟩
  | succ i => simpa using mapM_get hr (by simpa using hb)
noncomputable def capStore (caps : List Nat) (n : Nat) (σ : Store) : Store := caps.map (fun i => capS (getS σ i)) ++ List.replicate n .no
theorem capStore_noOwn (caps : List Nat) (n : Nat) (σ : Store) : NoOwn (capStore caps n σ) := fun i l e => by
 obtain ⟨j, _, h⟩ := getS_caps e fun z => Slot.dif z rfl
 cases q : getS σ j <;> rw [q] at h <;> exact Slot.dif h rfl
set_option tactic.hygienic true in
theorem rds_c (eo : EnvOk cx env) (so : ScOk sc) (hcap : (freeNames sc).mapM (slotC cx) = some caps) (rds : Rds O env cx.nm σ h) (k : Above h h') {m : Str → Option Value} (hns : h'.Ns C m) :
  Rds O (cEnv sc C env) (cxC cx sc).nm (capStore caps (localNames sc).length σ) h' where
 len := by
  have := mapM_len hcap
  simp [capStore, cxC, this]
 ns := ⟨m, hns⟩
 cells := fun x c hc => by
  obtain ⟨hc', _⟩ := clos_some eo hcap hc
  obtain ⟨v, q⟩ := rds.cells x c hc'
  exact ⟨v, q.keeps k⟩
 val := fun i x p e1 e2 => by
  obtain ⟨j, hj, hs⟩ := getS_caps e2 fun z => Slot.dif z rfl
  obtain ⟨y, hy, hsl⟩ := mapM_get hcap hj
  have hxy : x = y := by
   have hi : i < (freeNames sc).length := (List.getElem?_eq_some_iff.mp hy).1
   have e1' : (freeNames sc ++ localNames sc)[i]? = some x := e1
   rw [List.getElem?_append_left hi, hy] at e1'
   exact (Option.some.inj e1').symm
  subst hxy
  obtain ⟨h1, h2, h3⟩ := slotC_some eo hsl
  have hv : getS σ j = .val p := by
   cases q : getS σ j with
   | val u => rw [q] at hs; exact hs.symm
   | _ => rw [q] at hs; exact Slot.dif hs rfl
  obtain ⟨v, rd, rl⟩ := rds.val j x p h1 hv
  refine ⟨v, ?_, rl.above k⟩
  have hm : (x, NameKind.free) ∈ sc.names := mem_free.mp (List.mem_of_getElem? hy)
  obtain ⟨c, hc⟩ := lookup_of_mem (clos_has (cells := env.cells) (acc := []) hm)
  obtain ⟨hc', _⟩ := clos_some eo hcap hc
  obtain ⟨hd, q⟩ := rd
  refine ⟨hd, .inr ⟨?_, c, hc, ?_⟩⟩
  ·rw [kind_cEnv (lookup_of_nodup so.nodup hm)]
   split
   ·exact .inl rfl
   ·rename_i hq
    rcases h3 with h3 | ⟨h3, h4⟩
    ·exact absurd (by simp [eo.kind, h3]) hq
    ·exact .inr ⟨rfl, h4⟩
  ·rcases q with ⟨q, _⟩ | ⟨_, c', q1, q2⟩
   ·rcases h3 with h3 | ⟨h3, _⟩ <;> rw [h3] at q <;> cases q
   ·rw [hc'] at q1; (obtain rfl := oi q1; clear q1); exact q2.keeps k
 own := fun i x l e1 e2 => absurd e2 (capStore_noOwn caps _ σ i l)
end
end Rs.Internal
end
section
set_option tactic.hygienic false
open PySem PySem.Calls PyProof.Rows PySem.SeqAt PySem.Builtin.Str
namespace Rs.Internal
theorem Ch.nil {wr : List Addr} {s s' : Shared} (c : Ch wr s s') (hf : ∀ a ∈ wr, s.heap.get? a = none) : Kp s s' := Ch.kp (Ch.drop (S := []) (wr := wr) (by simpa using c) hf)
section
variable {prog : Program} {w : World} {A : Around} {G : Gl} {φ : Nat → List PV → Option PV} {hb : Heap} {cx : Cx} {env : Env} {O : List Addr} {σ : Store} {s s₂ : Shared}
 {elt : PySem.Expr} {gs : List Comprehension} {sc : Scope} {pos : Pos} {t iter : PySem.Expr} {ifs : List PySem.Expr} {tg : List Nat} {one : Bool} {it : It} {ifs' : Xs} {r : Gs} {caps : List Nat} {l out : List PV}
noncomputable def PartsOk (prog : Program) (w : World) (A : Around) (G : Gl) (φ : Nat → List PV → Option PV) (hb : Heap) (cx : Cx) (elt : PySem.Expr) (gens : List Comprehension) (t : PySem.Expr) (ifs : List PySem.Expr) (one : Bool) (tg : List Nat) (ifs' : Xs) (r : Gs) : Prop :=
 ∀ cenv, EnvOk cx cenv → Tg [cenv.locals] cenv cx.nm t one tg ∧ IfsOk prog w A G φ hb cx cenv ifs ifs' ∧ GsS prog w A G φ hb elt gens cx cenv 0 r
theorem comp_block (hh : A.handled = none) (so : ScOk sc) (hcap : (freeNames sc).mapM (slotC cx) = some caps) (P : PartsOk prog w A G φ hb (cxC cx sc) elt (⟨t, iter, ifs, 0⟩ :: gs) t ifs one tg ifs' r)
  (ok : Ok hb cx env O σ s) {I : Addr} {wr : List Addr} {s₁ : Shared} (k1 : Kp s s₁) (k₂ : Kp s₁ s₂) (hwr : ∀ a ∈ wr, s.heap.get? a = none) (hal : Alive wr s₂.heap)
  {b : Bool} (hK : ∀ O' W h', (∀ a ∈ O', a ∈ O ∨ a ∈ wr ∨ s₁.heap.get? a = none) → (∀ a ∈ wr, a ∈ O') → (∀ a ∈ W, a ∈ O') → (∀ a ∈ wr, a ∉ W) → (∀ a ∈ W, s₁.heap.get? a = none ∨ (b = true ∧ a ∈ O)) → Above s₂.heap h' →
   ∃ Mid St, Itr prog w A t I O' W wr Mid St ∧ St l h')
  (hev : compLoop (levF G φ one tg ifs' r (capStore caps (localNames sc).length σ)) l = some out) (hfit : out.length ≤ LIM) {E : Value → Shared → Prop} {RR : Value → Addr → Result → Shared → Prop}
  (hRR : ∀ D C s' vs, Kp s s' → (∃ m, s'.heap.Ns C m) → IsLst s'.heap D vs → RelL (C :: D :: (wr ++ O)) s'.heap out vs → C ≠ D → s.heap.get? D = none → s.heap.get? C = none → RR (.ref D) C (.ok .next) s') :
  wpAny (model prog w) A (newList []) (fun acc s₃ => wpAny (model prog w) A (newFunctionEnv sc env.globals (clos env.cells sc.names []) [] env.qual none .none (some env)) (fun cenv s₄ =>
   codeAny (model prog w) A (.compStart (.ListComp elt (⟨t, iter, ifs, 0⟩ :: gs) sc pos) 0 (.ref I) acc { cenv with scope := relabel sc env }) (RR acc cenv.locals) s₄) E s₃) E s₂ := by
 refine wpAny_newObj_type (wpAny_newFunctionEnv so.nocell (by intro y hy; simp at hy) (fun h₁ hns₁ hsb₁ => ?_) so.kind)
 dsimp only at hns₁ hsb₁ ⊢
 generalize hH2 : s₂.heap.push { cls := .type "list", dict := none, data := .seq ([] : List Value).toArray } = H2 at hns₁ hsb₁ ⊢
 have hC : H2.objs.size = s₂.heap.objs.size + 1 := by rw [← hH2, Heap.size_push]
 have hDC : s₂.heap.objs.size ≠ H2.objs.size := by rw [hC]; exact Nat.ne_of_lt (Nat.lt_succ_self _)
 have ab2 : Above s₂.heap h₁ := fun b o e => by
  have hlt := Heap.lt_size e
  exact hsb₁.extBut b o (Nat.ne_of_lt (by rw [hC]; exact Nat.lt_succ_of_lt hlt)) (Heap.get?_push_of_some _ (hH2 ▸ Heap.get?_push_of_some _ e))
 have hDl : IsLst h₁ s₂.heap.objs.size [] := ⟨0, hsb₁.extBut _ _ hDC (Heap.get?_push_of_some _ (hH2 ▸ Heap.get?_push_size _ rfl))⟩
 show codeAny (model prog w) A (.compStart (.ListComp elt (⟨t, iter, ifs, 0⟩ :: gs) sc pos) 0 (.ref I) (.ref s₂.heap.objs.size) (cEnv sc H2.objs.size env)) (RR (.ref s₂.heap.objs.size) H2.objs.size)
  { s₂ with heap := h₁, toks := s₂.toks + ([] : List (Str × Value)).length }
 have nC2 : s₂.heap.get? H2.objs.size = none := Heap.get?_none_of_le (by rw [hC]; exact Nat.le_succ _)
 have nD2 : s₂.heap.get? s₂.heap.objs.size = none := Heap.get?_none_of_le (Nat.le_refl _)
 have ltC : s₂.heap.objs.size ≤ H2.objs.size := by rw [hC]; exact Nat.le_succ _
 generalize hCa : H2.objs.size = C at hC hDC hns₁ hsb₁ nC2 ltC ⊢
 generalize hDa : s₂.heap.objs.size = D at hC hDC hDl nD2 ⊢
 have kp4 : Kp s₂ { s₂ with heap := h₁, toks := s₂.toks + ([] : List (Str × Value)).length } := ⟨Kp0.of s₂ ab2, Nat.le_refl _⟩
 have k04 := (k1.trans k₂).trans kp4
 have nC1 : s₁.heap.get? C = none := off_base k₂.above nC2
 have nD1 : s₁.heap.get? D = none := off_base k₂.above nD2
 have nC : s.heap.get? C = none := off_base k1.above nC1
 have nD : s.heap.get? D = none := off_base k1.above nD1
 have hCw : C ∉ wr := fun m => by obtain ⟨o, e⟩ := hal C m; rw [nC2] at e; exact nope e
 have hDw : D ∉ wr := fun m => by obtain ⟨o, e⟩ := hal D m; rw [nD2] at e; exact nope e
 have so' : EnvOk (cxC cx sc) (cEnv sc C env) := envOk_c ok.eo so hcap
 obtain ⟨T, hifs, hgs⟩ := P _ so'
 have hsub : ∀ a ∈ C :: D :: (wr ++ O), a ∈ O ∨ s.heap.get? a = none := fun a m => by
  simp only [List.mem_cons, List.mem_append] at m
  rcases m with rfl | rfl | m | m
  ·exact .inr nC
  ·exact .inr nD
  ·exact .inr (hwr a m)
  ·exact .inl m
 have okC : Ok hb (cxC cx sc) (cEnv sc C env) (C :: D :: (wr ++ O)) (capStore caps (localNames sc).length σ) { s₂ with heap := h₁, toks := s₂.toks + ([] : List (Str × Value)).length } := {
  eo := so'
  fw := fw_c ok.eo so hcap (ok.fw.mono fun a m => by simp [m]) (by simp) ((ok.rds.wide hsub).above (k1.trans k₂).above) (by rw [hDa] at ltC; exact Nat.le_trans (Nat.le_of_eq hDa) ltC)
  rds := rds_c ok.eo so hcap (ok.rds.wide hsub) k04.above hns₁
  al := by
   refine Alive.cons (Alive.cons (fun a m => ?_) (let ⟨n, e⟩ := hDl; ⟨_, e⟩)) (let ⟨o, _, _, e, _⟩ := hns₁; ⟨o, e⟩)
   rcases List.mem_append.mp m with m | m
   ·exact hal.above ab2 a m
   ·exact ok.al.above k04.above a m
  base := ok.base.trans k04.above
  tok := Nat.le_trans ok.tok k04.2 }
 have hCn : hb.get? C = none := off_base ok.base nC
 have hDn : hb.get? D = none := off_base ok.base nD
 have hrest := rest_ok (sc := sc) (pos := pos) hh (cenv := cEnv sc C env) hCn hDn rfl hgs
 obtain ⟨Mid, St, K, hst⟩ := hK (C :: D :: (wr ++ O)) [C, D] h₁ (fun a m => by
   simp only [List.mem_cons, List.mem_append] at m
   rcases m with rfl | rfl | m | m
   ·exact .inr (.inr nC1)
   ·exact .inr (.inr nD1)
   ·exact .inr (.inl m)
   ·exact .inl m) (fun a m => by simp [m]) (fun a m => by simp only [List.mem_cons, List.not_mem_nil, or_false] at m; rcases m with rfl | rfl <;> simp)
  (fun a m m' => by
   simp only [List.mem_cons, List.not_mem_nil, or_false] at m'
   rcases m' with rfl | rfl
   ·exact hCw m
   ·exact hDw m)
  (fun a m => by
   simp only [List.mem_cons, List.not_mem_nil, or_false] at m
   rcases m with rfl | rfl
   ·exact .inl nC1
   ·exact .inl nD1) ab2
 have loop : codeAny (model prog w) A (.compLoop (.ListComp elt (⟨t, iter, ifs, 0⟩ :: gs) sc pos) 0 (.ref I) (.ref D) (cEnv sc C env)) (RR (.ref D) C) { s₂ with heap := h₁, toks := s₂.toks + ([] : List (Str × Value)).length } := by
  refine comp_level hh rfl T hifs hrest (fun g hg' => ?_) hCn hDn K (fun a m => by simp [m]) (by simp) hCw hDw
   (fun x c e m => ?_) (fun a m => off_base ok.base (hwr a m)) (okC.clr (tg ++ r.tgs)) (capStore_noOwn _ _ _) hst hDl (show RelL _ _ [] [] from rfl) hev (by simpa using hfit) fun s' c' rds' ⟨vs', l', rl'⟩ => ?_
  ·cases hgs with
   | fin z1 z2 hn z3 => rw [hn] at hg'; exact nope hg'
   | cons z1 z2 z3 z4 z5 z6 z7 z8 z9 hg2 => rw [hg2] at hg'; (obtain rfl := oi hg'; clear hg'); rfl
  ·obtain ⟨hc', _⟩ := clos_some ok.eo hcap e
   obtain ⟨v, o, e1, e2⟩ := ok.rds.cells x c hc'
   rw [hwr c m] at e1; exact nope e1
  ·refine hRR D C s' vs' (Ch.nil (k04.ch.trans c') fun a m => ?_) rds'.ns l' (by simpa using rl') (Ne.symm hDC) nD nC
   simp only [List.mem_append, List.mem_cons, List.not_mem_nil, or_false] at m
   rcases m with (m | m) | m
   ·rw [m]; exact nC
   ·rw [m]; exact nD
   ·exact hwr a m
 exact compStart_gen rfl loop (K.self _ _ _ _ hst loop)
theorem comp_out (h : evX G φ (.comp caps (localNames sc).length tg one it ifs' r) σ = some (.lst out)) :
  ∃ vals, evIt G φ it σ = some vals ∧ compLoop (levF G φ one tg ifs' r (capStore caps (localNames sc).length σ)) vals = some out ∧ out.length ≤ LIM := by
 obtain ⟨vals, h1, h2⟩ := bnd h
 obtain ⟨o, h2, h3⟩ := bnd h2
 obtain ⟨hf, h3⟩ := its h3
 cases oi h3
 exact ⟨vals, h1, h2, fitL_iff hf⟩
theorem comp_lst {n : Nat} {p : PV} (h : evX G φ (.comp caps n tg one it ifs' r) σ = some p) : ∃ out, p = .lst out := by
 obtain ⟨vals, h1, h2⟩ := bnd h
 obtain ⟨o, h2, h3⟩ := bnd h2
 exact ⟨o, (oi (its h3).2).symm⟩
theorem comp_run (hh : A.handled = none) (so : ScOk sc) (hcap : (freeNames sc).mapM (slotC cx) = some caps) (P : PartsOk prog w A G φ hb (cxC cx sc) elt (⟨t, iter, ifs, 0⟩ :: gs) t ifs one tg ifs' r)
  (hit : IterOk prog w A G φ hb cx env iter it t) (hset : ∀ x, foldedSetIterable iter env x = pure x) (ok : Ok hb cx env O σ s)
  (h : evX G φ (.comp caps (localNames sc).length tg one it ifs' r) σ = some (.lst out)) (pos' : Pos) {E : Value → Shared → Prop} {use : Option (Value → Sem Unit)} {Q : Value → Shared → Prop}
  (hQ : ∀ wr D C s' vs, (∀ a ∈ wr, s.heap.get? a = none) → Kp s s' → (∃ m, s'.heap.Ns C m) → IsLst s'.heap D vs → RelL (C :: D :: (wr ++ O)) s'.heap out vs → C ≠ D → s.heap.get? D = none → s.heap.get? C = none →
   compPost (model prog w) A E use Q (.ref D) C (.ok .next) s') :
  wpAny (model prog w) A (comprehension (.ListComp elt (⟨t, iter, ifs, 0⟩ :: gs) sc pos) sc env pos' (newList []) false (eval iter env) use) Q E s := by
 refine cps fun PP kk => ?_
 obtain ⟨vals, h1, h2, h3⟩ := comp_out h
 refine kk ?_
 clear kk PP
 refine wpAny_comprehension_free (use := use) rfl hset (closureFor_eq (caps_all ok.eo hcap)) so.kind (fun x hx hl => ?_) (wpAny_mono (hit O σ s vals ok h1) (fun v s₁ q => ?_) fun z1 z2 f => f.elim)
 ·obtain ⟨y, k⟩ := x
  simp only at hl; subst hl
  exact lookup_of_nodup so.nodup hx
 obtain ⟨k₁, hiv⟩ := q
 refine hiv _ _ ?_
 intro I wr s₂ k₂ hI hwr hal hK
 exact comp_block hh so hcap P ok k₁ k₂ hwr hal hK h2 h3 (RR := fun acc C => compPost (model prog w) A E use Q acc C)
  fun D C s' vs a1 a2 a3 a4 a5 a6 a7 => hQ wr D C s' vs hwr a1 a2 a3 a4 a5 a6 a7
theorem s_comp (hh : A.handled = none) (so : ScOk sc) (hcap : (freeNames sc).mapM (slotC cx) = some caps) (P : PartsOk prog w A G φ hb (cxC cx sc) elt (⟨t, iter, ifs, 0⟩ :: gs) t ifs one tg ifs' r)
  (hit : IterOk prog w A G φ hb cx env iter it t) (hset : ∀ x, foldedSetIterable iter env x = pure x) (ok : Ok hb cx env O σ s) {p : PV}
  (h : evX G φ (.comp caps (localNames sc).length tg one it ifs' r) σ = some p) : Ev prog w A O (eval (.ListComp elt (⟨t, iter, ifs, 0⟩ :: gs) sc pos) env) p s := by
 obtain ⟨out, rfl⟩ := comp_lst h
 unfold Ev
 rw [eval_ListComp]
 show wpAny (model prog w) A (comprehension (.ListComp elt (⟨t, iter, ifs, 0⟩ :: gs) sc pos) sc env iter.pos (newList []) false (eval iter env) none) _ _ s
 refine comp_run hh so hcap P hit hset ok h iter.pos (use := none) fun wr D C s' vs hwr k hns hl hr hCD hD hC => ?_
 obtain ⟨m, hns⟩ := hns
 refine ⟨m, hns, fun h' hs' => ?_⟩
 have ag : Agree [C] s'.heap h' := fun b o hb e => hs'.extBut b o (by simpa using hb) e
 refine ⟨Ch.nil (wr := [C]) (k.ch.trans ⟨⟨h', s'.toks, rfl, ag⟩, Nat.le_refl _⟩) (by simpa using hC), D, vs, rfl, fun m' => ?_, ?_, ?_⟩
 ·obtain ⟨o, e⟩ := ok.al D m'; rw [hD] at e; exact nope e
 ·obtain ⟨n, e⟩ := hl; exact ⟨n, ag _ _ (by simpa using Ne.symm hCD) e⟩
 ·exact RelL.mono (fun a m => by simp [m]) _ _ (hr.agree (ag.mono (by simp)))
end
end Rs.Internal
end
section
set_option tactic.hygienic false
open PySem PySem.Calls PyProof.Rows PySem.SeqAt PySem.Builtin.Str
namespace Rs.Internal
section
variable {prog : Program} {w : World} {A : Around} {G : Gl} {φ : Nat → List PV → Option PV} {hb : Heap} {gl fn : List Str} {mg mb : Str → Option Value} {cx : Cx} {env : Env} {O : List Addr} {σ : Store} {s : Shared} {p : PV} {pos : Pos}
theorem slotOf_some {x : Str} {i : Nat} (h : slotOf cx x = some i) : cx.nm[i]? = some x := by
 unfold slotOf at h
 cases hk : cx.kind.lookup x with
 | none => rw [hk] at h; exact nope h
 | some k =>
  rw [hk] at h
  cases k with
  | «local» => exact idxOf?_get h
  | cell => exact idxOf?_get h
  | free => exact idxOf?_get (itn h).2
  | _ => exact nope h
theorem isGlob_iff {x : Str} (h : isGlob cx x = true) : cx.kind.lookup x = some .globalImplicit ∧ (x == ("__debug__" : Str)) = false := by
 unfold isGlob at h
 simp only [Bool.and_eq_true, beq_iff_eq, bne_iff_ne, ne_eq] at h
 exact ⟨h.1, by simpa using h.2⟩
theorem Ok.ns (ok : Ok hb cx env O σ s) (g : Glob prog w G φ hb gl fn A mg mb) : s.heap.Ns mainGlobals mg := g.ns.at' fun o e => ok.base _ o e
theorem Ok.bi (ok : Ok hb cx env O σ s) (g : Glob prog w G φ hb gl fn A mg mb) : s.heap.Ns builtinsNs mb := g.bi.at' fun o e => ok.base _ o e
theorem builtinName (g : Glob prog w G φ hb gl fn A mg mb) (eo : EnvOk cx env) {x : Str} {v : Value} (hx : isGlob cx x = true) (hp : x ∈ plainNames) (hv : bootBuiltins x = some v) : BuiltinName env mg mb x v where
 kind := eo.kind
 name := eo.glob _ (isGlob_iff hx).1
 gl := eo.gls
 bi := eo.bis
 free := g.free x hp
 val := by rw [g.boot x (fun e => by subst e; revert hp; decide)]; exact hv
 dbg := (isGlob_iff hx).2
theorem own_item {l : List PV} {vs : List Value} {y : PV} {b : Value} {a : Addr} (h : idxP (.lst l) y = some p) (hl : IsLst s.heap a vs) (hx : RelL O s.heap l vs) (hb : Rel O s.heap y b) :
  Ev0 prog w A O (getItem (.ref a) b) p s := by
 replace h := bnd h
 obtain ⟨i, hi, h⟩ := h
 rw [PV.int_of hi] at hb
 obtain ⟨u, rfl⟩ := hb
 replace h := its h
 obtain ⟨hs, h⟩ := h
 exact item_list hs h hl hx
theorem s_idxO {x : Str} {np : Pos} {i : PySem.Expr} {l : List PV} {vs : List Value} {y : PV} {a : Addr} (hc : notCut i = true) (hk : env.scope.kind = .function) (hr : Rd env s.heap x (.ref a)) (hl : IsLst s.heap a vs) (hx : RelL O s.heap l vs)
  (h2 : ∀ s', Kp s s' → Ev prog w A O (eval i env) y s') (hp : idxP (.lst l) y = some p) : Ev prog w A O (eval (.Subscript (.Name x np) i pos) env) p s :=
 Subscript_ (wpAny_Name (hr.load hk ((h2 _ (Kp.refl s)).use fun b s₂ k₂ r₂ =>
  tail_any (hl.above k₂.above).isList.typeIs slot_list_getitem.lookup ((own_item hp (hl.above k₂.above) (hx.above k₂.above) r₂).use fun v s₃ k₃ r₃ => ⟨k₂.trans k₃, r₃⟩) (subscripted_at hc _ _))) hr.1)
theorem own_len {l : List PV} {vs : List Value} {a : Addr} (h : bfP .len [.lst l] = some p) (hl : IsLst s.heap a vs) (hx : RelL O s.heap l vs) : Ev0 prog w A O (call (.builtin "len") [.ref a]) p s := by
 replace h := its (show (if fitL l.length then some (PV.int l.length) else none) = some p from h)
 obtain ⟨hf, h⟩ := h
 obtain rfl := oi h
 exact len_list hf hl hx
theorem s_lenO {x : Str} {np ap : Pos} {l : List PV} {vs : List Value} {a : Addr} (B : BuiltinName env mg mb "len" (.builtin "len")) (hg : s.heap.Ns mainGlobals mg) (hb : s.heap.Ns builtinsNs mb) (hr : Rd env s.heap x (.ref a))
  (hl : IsLst s.heap a vs) (hx : RelL O s.heap l vs) (h : bfP .len [.lst l] = some p) : Ev prog w A O (eval (.Call (.Name "len" np) [.Name x ap] [] pos) env) p s :=
 PyProof.Rows.Call_Name rfl (B.load hg hb (PyProof.Rows.callWith_builtin1 (args_cons (wpAny_Name (hr.load B.kind (spliced_nil ((own_len h hl hx).up))) hr.1) (starEach_cons rfl _ _)) (starEach_cons rfl _ _) rfl))
theorem bname {f g : Str} {a b : Nat} (h : (f == g && a == b) = true) : f = g := by
 rw [Bool.and_eq_true, beq_iff_eq] at h; exact h.1
theorem s_bf (g : Glob prog w G φ hb gl fn A mg mb)
  {f : Str} {n : Nat} {k : Bf} (hf : bfOf f n = some k) (ok : Ok hb cx env O σ s) (hx : isGlob cx f = true) {np : Pos} {es : List PySem.Expr} {ps : List PV} (hes : es ≠ []) (h : EvAll prog w A O env es ps s) (hp : bfP k ps = some p) :
  Ev prog w A O (eval (.Call (.Name f np) es [] pos) env) p s := by
 have hh := g.han
 have al : ∀ s', Kp s s' → Alive O s'.heap := fun s' k => ok.al.above k.above
 cases es with
 | nil => exact absurd rfl hes
 | cons e r =>
  have hpl : (backTo pos (starEach r env)).any (·.1) = false := by
   obtain ⟨_, _, _, _, _, h⟩ := h; exact h.plain
  have bt : ∀ {f' : Str} {m : Nat} {id : String}, (f == f' && n == m) = true → f' ∈ plainNames → bootBuiltins f' = some (.builtin id) → (∀ vs s', Kp s s' → RelL O s'.heap ps vs → Ev0 prog w A O (call (.builtin id) vs) p s') → Ev prog w A O (eval (.Call (.Name f np) (e :: r) [] pos) env) p s :=
   fun q b c d => by
    obtain rfl := bname q
    exact s_call_builtin (builtinName g ok.eo hx b c) (ok.ns g) (ok.bi g) h hpl d
  have tt : ∀ {f' : Str} {m : Nat} {id : String}, (f == f' && n == m) = true → f' ∈ plainNames → bootBuiltins f' = some (.type id) → (∀ vs s', Kp s s' → RelL O s'.heap ps vs → Ev0 prog w A O (call (.type id) vs) p s') → Ev prog w A O (eval (.Call (.Name f np) (e :: r) [] pos) env) p s :=
   fun q b c d => by
    obtain rfl := bname q
    exact s_call_type (builtinName g ok.eo hx b c) (ok.ns g) (ok.bi g) h hpl d
  rcases ito hf with ⟨hc, hk⟩ | ⟨_, hf⟩
  ·(obtain rfl := oi hk; clear hk); exact bt hc (by decide) boot_len fun vs s' k r => b_len hp r
  rcases ito hf with ⟨hc, hk⟩ | ⟨_, hf⟩
  ·(obtain rfl := oi hk; clear hk); exact bt hc (by decide) (by decide +kernel) fun vs s' k r => b_chr hp r
  rcases ito hf with ⟨hc, hk⟩ | ⟨_, hf⟩
  ·(obtain rfl := oi hk; clear hk); exact bt hc (by decide) (by decide +kernel) fun vs s' k r => b_ord hp r
  rcases ito hf with ⟨hc, hk⟩ | ⟨_, hf⟩
  ·(obtain rfl := oi hk; clear hk); exact bt hc (by decide) (by decide +kernel) fun vs s' k r => b_min2 hh hp r
  rcases ito hf with ⟨hc, hk⟩ | ⟨_, hf⟩
  ·(obtain rfl := oi hk; clear hk); exact bt hc (by decide) (by decide +kernel) fun vs s' k r => b_sum hh hp r
  rcases ito hf with ⟨hc, hk⟩ | ⟨_, hf⟩
  ·(obtain rfl := oi hk; clear hk); exact tt hc (by decide) (by decide +kernel) fun vs s' k r => b_listOf hh (al s' k) hp r
  rcases ito hf with ⟨hc, hk⟩ | ⟨_, hf⟩
  ·(obtain rfl := oi hk; clear hk); exact tt hc (by decide) (by decide +kernel) fun vs s' k r => b_range1 (al s' k) hp r
  rcases ito hf with ⟨hc, hk⟩ | ⟨_, hf⟩
  ·(obtain rfl := oi hk; clear hk); exact tt hc (by decide) (by decide +kernel) fun vs s' k r => b_range2 (al s' k) hp r
  rcases ito hf with ⟨hc, hk⟩ | ⟨_, hf⟩
  ·(obtain rfl := oi hk; clear hk); exact tt hc (by decide) (by decide +kernel) fun vs s' k r => b_range3 (al s' k) hp r
  exact nope hf
theorem s_mf {f : Str} {k : Mf} {es : List PySem.Expr} (hf : mfOf f es.length = some k) (ok : Ok hb cx env O σ s) {o : PySem.Expr} {apos : Pos} {x : PV} {ps : List PV} (hbase : baseOk o = true) (hline : (apos.endLine == pos.line) = true)
  (h1 : Ev prog w A O (eval o env) x s) (h2 : EvAll prog w A O env es ps s) (hp : mfP k x ps = some p) : Ev prog w A O (eval (.Call (.Attribute o f apos) es [] pos) env) p s := by
 replace al : ∀ s', Kp s s' → Alive O s'.heap := fun s' k => ok.al.above k.above
 have bt : ∀ {f' : Str} {m : Nat}, (f == f' && es.length == m) = true → m < 30 → (∀ ov s', Kp s s' → Rel O s'.heap x ov → MethOk prog w A O f' ov ps p s') → Ev prog w A O (eval (.Call (.Attribute o f apos) es [] pos) env) p s := fun hc hm q => by
  rw [Bool.and_eq_true, beq_iff_eq, beq_iff_eq] at hc
  obtain rfl := hc.1
  exact s_meth hbase hline (by rw [hc.2]; exact hm) h1 h2 q
 rcases ito hf with ⟨hc, hk⟩ | ⟨_, hf⟩
 ·(obtain rfl := oi hk; clear hk); exact bt hc (by decide) fun ov s' k r => m_lower hp r
 rcases ito hf with ⟨hc, hk⟩ | ⟨_, hf⟩
 ·(obtain rfl := oi hk; clear hk); exact bt hc (by decide) fun ov s' k r => m_split (al s' k) hp r
 rcases ito hf with ⟨hc, hk⟩ | ⟨_, hf⟩
 ·(obtain rfl := oi hk; clear hk); exact bt hc (by decide) fun ov s' k r => m_starts hp r
 rcases ito hf with ⟨hc, hk⟩ | ⟨_, hf⟩
 ·(obtain rfl := oi hk; clear hk); exact bt hc (by decide) fun ov s' k r => m_ends hp r
 rcases ito hf with ⟨hc, hk⟩ | ⟨_, hf⟩
 ·(obtain rfl := oi hk; clear hk); exact bt hc (by decide) fun ov s' k r => m_find4 hp r
 rcases ito hf with ⟨hc, hk⟩ | ⟨_, hf⟩
 ·(obtain rfl := oi hk; clear hk); exact bt hc (by decide) fun ov s' k r => m_count hp r
 rcases ito hf with ⟨hc, hk⟩ | ⟨_, hf⟩
 ·(obtain rfl := oi hk; clear hk); exact bt hc (by decide) fun ov s' k r => m_join hp r
 exact nope hf
end
end Rs.Internal
end
section
set_option tactic.hygienic false
open PySem PySem.Calls PyProof.Rows PySem.SeqAt PySem.Builtin.Str
namespace Rs.Internal
section
variable (prog : Program) (w : World) (A : Around) (G : Gl) (φ : Nat → List PV → Option PV) (hb : Heap)
structure SX (cx : Cx) (env : Env) (e : PySem.Expr) (x : X) (O : List Addr) (σ : Store) (s : Shared) (p : PV) : Prop where
 ev : Ev prog w A O (eval e env) p s
 tr : ∀ b, p.truth = some b → EvB prog w A (PySem.isTrue e env (eval e env)) b s
noncomputable def SXa (cx : Cx) (env : Env) (e : PySem.Expr) (x : X) : Prop := ∀ O σ s p, Ok hb cx env O σ s → evX G φ x σ = some p → SX prog w A cx env e x O σ s p
noncomputable def SBa (cx : Cx) (env : Env) (op : BoolOp) (es : List PySem.Expr) (x : X) : Prop := ∀ O σ s p, Ok hb cx env O σ s → evX G φ x σ = some p → es ≠ [] ∧
 (∀ pos, Ev prog w A O (boolOp pos op (evalEach es env)) p s) ∧ ∀ b, p.truth = some b → EvB prog w A (allTrue op es env) b s
structure Left (gl fn : List Str) (mg mb : Str → Option Value) : Prop where
 repl : ∀ cx env O σ s o apos pos a b k1 p1 k2 p2 t, Ok hb cx env O σ s → (apos.endLine == pos.line) = true → baseOk o = true → a ≠ b → Ev prog w A O (eval o env) (.str t) s → a.cps.toList ≠ [] → fitL t.length = true → fitL ((t.length + 1) * b.cps.toList.length) = true →
  Ev prog w A O (eval (.Call (.Attribute o "replace" apos) [.Constant (.str a) k1 p1, .Constant (.str b) k2 p2] [] pos) env) (.str (replL t a.cps.toList b.cps.toList)) s
 b1 : ∀ cx env O σ s e np pos i, Ok hb cx env O σ s → isGlob cx "b1_set" = true → Ev prog w A O (eval e env) (.int i) s → SX prog w A cx env (.Compare e [.In] [.Name "b1_set" np] pos) (.const .none) O σ s (.bool (G.b1 i))
 b3 : ∀ cx env O σ s e np apos pos i, Ok hb cx env O σ s → (apos.endLine == pos.line) = true → isGlob cx "b3_exceptions" = true → (∀ s', Kp s s' → Ev prog w A O (eval e env) (.int i) s') → notStar e = true →
  Ev prog w A O (eval (.Call (.Attribute (.Name "b3_exceptions" np) "get" apos) [e] [] pos) env) (match G.b3 i with | some t => .str t | none => .none) s
end
section
variable {prog : Program} {w : World} {A : Around} {G : Gl} {φ : Nat → List PV → Option PV} {hb : Heap} {gl fn : List Str} {mg mb : Str → Option Value} {cx : Cx} {env : Env} {O : List Addr} {σ : Store} {s : Shared} {p : PV} {pos : Pos} {e : PySem.Expr} {x : X}
theorem sx_plain (h : Ev prog w A O (eval e env) p s) (he : ∀ whole, PySem.isTrue e env whole = (do let v ← whole; standAt e.pos; holding [v] (truthy v))) : SX prog w A cx env e x O σ s p :=
 ⟨h, fun b hb => t_plain h hb (he _)⟩
theorem cX_notStar {n : Nat} (h : cX n cx e = some x) : notStar e = true := by
 cases n with
 | zero => exact nope h
 | succ n => cases e <;> first | rfl | exact nope h
theorem cX_notCut {n : Nat} (h : cX n cx e = some x) : notCut e = true := by
 cases n with
 | zero => exact nope h
 | succ n => cases e <;> first | rfl | exact nope h
theorem cX_notSet {n : Nat} (h : cX n cx e = some x) : ∀ op, behindInMarks op e = false := by
 cases n with
 | zero => exact nope h
 | succ n => cases e <;> first | (intro op; rfl) | exact nope h
theorem cX_folded {n : Nat} (h : cX n cx e = some x) : ∀ v, foldedSetIterable e env v = pure v := by
 cases n with
 | zero => exact nope h
 | succ n => cases e <;> first | (intro v; rfl) | exact nope h
end
end Rs.Internal
end
section
set_option tactic.hygienic false
open PySem PySem.Calls PyProof.Rows PySem.SeqAt PySem.Builtin.Str
namespace Rs.Internal
section
variable {prog : Program} {w : World} {A : Around} {G : Gl} {φ : Nat → List PV → Option PV} {hb : Heap} {gl fn : List Str} {mg mb : Str → Option Value} {cx : Cx} {env : Env} {O : List Addr} {σ : Store} {s : Shared} {p : PV} {pos : Pos} {e : PySem.Expr} {x : X}
theorem Alive.one {h : Heap} {o : Obj} (hf : o.isFreed = false) : Alive [h.objs.size] (h.push o) := fun a m => by
 rw [List.mem_singleton.mp m]; exact ⟨_, Heap.get?_push_size _ hf⟩
theorem Src.wide {O O' : List Addr} {h : Heap} {src : Src} {l : List PV} (hs : ∀ a ∈ O', a ∈ O ∨ h.get? a = none) (x : src.gives O h l) : src.gives O' h l := by
 cases src with
 | lst ax vs => exact RelL.wide hs _ _ x
 | tup ax vs => exact RelL.wide hs _ _ x
 | _ => exact x
theorem iter_made2 {v : Value} {l : List PV} {Q : Value → Shared → Prop} {E : Value → Shared → Prop} (hr : Rel O s.heap p v) (hi : itemsP p = some l)
  (key : ∀ (src : Src) (o : Obj) (tk : Nat), (s.heap.push o).get? s.heap.objs.size = some o → s.toks ≤ tk → src.at s.heap.objs.size (s.heap.push o) → src.gives O s.heap l → (∀ W, (∀ a ∈ W, s.heap.get? a = none ∨ a ∈ O) → src.off W) →
   Q (.ref s.heap.objs.size) { s with heap := s.heap.push o, toks := tk }) : wpAny (model prog w) A (pyIter v) Q E s := by
 have offs : ∀ {ax : Addr} {o : Obj}, s.heap.get? ax = some o → ax ∉ O → ∀ W : List Addr, (∀ a ∈ W, s.heap.get? a = none ∨ a ∈ O) → ax ∉ W := fun e h W hW m => by
  rcases hW _ m with q | q
  ·rw [q] at e; exact nope e
  ·exact h q
 cases p with
 | lst m =>
  obtain rfl := oi hi
  refine cps fun PP kk => ?_
  obtain ⟨a, vs, ee1, ha, hl, hrl⟩ := hr
  refine kk ?_
  clear kk PP
  subst ee1
  obtain ⟨n, e⟩ := id hl
  refine wpAny_pyIter_list hl.isList (key (.lst a vs) _ s.toks (Heap.get?_push_size _ rfl) (Nat.le_refl _) ⟨⟨_, Heap.get?_push_size _ rfl, rfl, rfl⟩, hl.above (Above.push _ _), Nat.ne_of_lt hl.lt⟩ hrl (offs e ha))
 | tup m =>
  obtain rfl := oi hi
  refine cps fun PP kk => ?_
  obtain ⟨a, vs, ee2, ha, hl, hrl⟩ := hr
  refine kk ?_
  clear kk PP
  subst ee2
  obtain ⟨n, e⟩ := id hl
  refine wpAny_pyIter_tuple hl.isTuple (key (.tup a vs) _ s.toks (Heap.get?_push_size _ rfl) (Nat.le_refl _) ⟨⟨_, Heap.get?_push_size _ rfl, rfl, rfl⟩, hl.above (Above.push _ _), Nat.ne_of_lt hl.lt⟩ hrl (offs e ha))
 | str x =>
  obtain rfl := oi hi
  obtain ⟨t, rfl⟩ := hr
  cases hw : (⟨x.toArray⟩ : Str).cps.all (· < 128)
  ·exact wpAny_pyIter_wide hw (key (.wid ⟨x.toArray⟩ t) _ s.toks (Heap.get?_push_size _ rfl) (Nat.le_refl _) ⟨_, Heap.get?_push_size _ rfl, rfl, rfl⟩ rfl fun z1 z2 => trivial)
  ·exact wpAny_pyIter_ascii hw (key (.asc ⟨x.toArray⟩ t) _ s.toks (Heap.get?_push_size _ rfl) (Nat.le_refl _) ⟨_, Heap.get?_push_size _ rfl, rfl, rfl⟩ rfl fun z1 z2 => trivial)
 | rng lo n st =>
  replace hi := its hi
  obtain ⟨hc, hi⟩ := hi
  ·obtain rfl := oi hi
   simp only [Bool.and_eq_true, decide_eq_true_eq] at hc
   refine cps fun PP kk => ?_
   obtain ⟨⟨⟨c1, c2⟩, c3⟩, c4⟩ := hc
   refine kk ?_
   clear kk PP
   refine cps fun PP kk => ?_
   obtain ⟨a, t1, t2, t3, ee3, ha, hl⟩ := hr
   refine kk ?_
   clear kk PP
   subst ee3
   obtain ⟨e1, e2⟩ := range_small c1 c2 c3 c4
   refine wpAny_pyIter_range hl e1 (key (.rng lo st (rcount lo n st)) _ s.toks (Heap.get?_push_size _ rfl) (Nat.le_refl _) ?_ rfl fun z1 z2 => trivial)
   show _ = _
   rw [e2]
   exact Heap.get?_push_size _ rfl
 | none => exact nope hi
 | bool z1 => exact nope hi
 | int z1 => exact nope hi
theorem iterVal_rel {hp : Heap} {b : Bool} {t : PySem.Expr} {v : Value} {l : List PV} (hh : A.handled = none) (al : Alive O s.heap) (k : Above hp s.heap) (hr : Rel O s.heap p v) (hi : itemsP p = some l) : IterVal prog w A hp b O t v l s := by
 intro Q E hQ
 have n0 : s.heap.get? s.heap.objs.size = none := Heap.get?_none_of_le (Nat.le_refl _)
 refine iter_made2 hr hi fun src o tk hso htk hat hg hoff => ?_
 refine hQ s.heap.objs.size [s.heap.objs.size] _ ⟨⟨_, _, rfl, Above.push _ _⟩, htk⟩ (by simp) (fun a m => by rw [List.mem_singleton.mp m]; exact off_base k n0) (fun a m => by rw [List.mem_singleton.mp m]; exact ⟨_, hso⟩) fun O' W h' hO' hwO hWO hwW hW ab => ?_
 refine Src.itr hh (hat.above ab) ((Src.wide (fun a m => ?_) hg).above ((Above.push _ _).trans ab)) (hwO _ (by simp)) (hwW _ (by simp)) hWO (hoff W fun a m => (hW a m).imp_right And.right)
 rcases hO' a m with q | q | q
 ·exact .inl q
 ·rw [List.mem_singleton.mp q]; exact .inr n0
 ·exact .inr q
theorem iterVal_own {hp : Heap} {t : PySem.Expr} {a : Addr} {vs : List Value} {l : List PV} (hh : A.handled = none) (k : Above hp s.heap) (hl : IsLst s.heap a vs) (hr : RelL O s.heap l vs) : IterVal prog w A hp false O t (.ref a) l s := by
 intro Q E hQ
 have n0 : s.heap.get? s.heap.objs.size = none := Heap.get?_none_of_le (Nat.le_refl _)
 refine wpAny_pyIter_list hl.isList (hQ s.heap.objs.size [s.heap.objs.size] _ ⟨⟨_, _, rfl, Above.push _ _⟩, Nat.le_refl _⟩ (by simp) (fun a m => by rw [List.mem_singleton.mp m]; exact off_base k n0) (Alive.one rfl) fun O' W h' hO' hwO hWO hwW hW ab => ?_)
 refine Src.itr (src := .lst a vs) hh (Src.at.above (h := s.heap.push _) ⟨⟨_, Heap.get?_push_size _ rfl, rfl, rfl⟩, hl.above (Above.push _ _), Nat.ne_of_lt hl.lt⟩ ab) ((Src.wide (src := .lst a vs) (O := O) (h := s.heap) (fun a m => ?_) hr).above ((Above.push _ _).trans ab)) (hwO _ (by simp)) (hwW _ (by simp)) hWO fun m => ?_
 ·rcases hO' a m with q | q | q
  ·exact .inl q
  ·rw [List.mem_singleton.mp q]; exact .inr n0
  ·exact .inr q
 ·obtain ⟨n, e⟩ := hl
  rcases hW _ m with q | ⟨q, _⟩
  ·rw [q] at e; exact nope e
  ·exact absurd q Bool.false_ne_true
end
end Rs.Internal
end
section
set_option tactic.hygienic false
set_option backward.match.sparseCases false
open PySem PySem.Calls PyProof.Rows PySem.SeqAt PySem.Builtin.Str
namespace Rs.Internal
section
variable (prog : Program) (w : World) (A : Around) (G : Gl) (φ : Nat → List PV → Option PV) (hb : Heap) (gl fn : List Str)
structure Snd (n : Nat) : Prop where
 x : ∀ cx env e x, cx.gl = gl → cx.fn = fn → cX n cx e = some x → SXa prog w A G φ hb cx env e x
 b : ∀ cx env op es x, cx.gl = gl → cx.fn = fn → cBool n cx op es = some x → SBa prog w A G φ hb cx env op es x
 o : ∀ cx env lo x, cx.gl = gl → cx.fn = fn → cOpt n cx lo = some x → ∀ O σ s p, Ok hb cx env O σ s → evX G φ x σ = some p → Ev prog w A O (evalPart lo env) p s
 xs : ∀ cx env es xs, cx.gl = gl → cx.fn = fn → cXs n cx es = some xs → ∀ O σ s ps, Ok hb cx env O σ s → evXs G φ xs σ = some ps → EvAll prog w A O env es ps s
 ifs : ∀ cx env es xs, cx.gl = gl → cx.fn = fn → cXs n cx es = some xs → IfsOk prog w A G φ hb cx env es xs
 it : ∀ cx env e i t, cx.gl = gl → cx.fn = fn → cIt n cx e = some i → ((∃ es k p, t = .Tuple es k p) ∨ ∀ a b, i ≠ .zip a b) → IterOk prog w A G φ hb cx env e i t ∧ ∀ v, foldedSetIterable e env v = pure v
 gs : ∀ cx env gens d gs elt r, cx.gl = gl → cx.fn = fn → gens.drop (d + 1) = gs → cGs n cx gs elt = some r → cx.own = [] → EnvOk cx env → GsS prog w A G φ hb elt gens cx env d r
end
section
variable {prog : Program} {w : World} {A : Around} {G : Gl} {φ : Nat → List PV → Option PV} {hb : Heap} {gl fn : List Str} {mg mb : Str → Option Value} {cx : Cx} {env : Env} {O : List Addr} {σ : Store} {s : Shared} {p : PV} {pos : Pos} {e : PySem.Expr} {x : X}
theorem tgtL_tg {t : PySem.Expr} {q : Bool × List Nat} (eo : EnvOk cx env) (h : tgtL cx t = some q) : Tg [env.locals] env cx.nm t q.1 q.2 := by
 refine tg_of (g := slotL cx) (fun x i hx => ?_) h
 replace hx := itp hx
 obtain ⟨hk, hx⟩ := hx
 exact ⟨hx, eo.dbg x _ hk, .inl ⟨eo.loc x hk, by simp⟩⟩
theorem tgtL_shape {t : PySem.Expr} {q : Bool × List Nat} {i : It} (h : tgtL cx t = some q) (hz : zipOk q.1 i = true) : (∃ es k p, t = .Tuple es k p) ∨ ∀ a b, i ≠ .zip a b := by
 cases i with
 | zip a b =>
  cases t with
  | Tuple es k p => exact .inl ⟨_, _, _, rfl⟩
  | Name x p =>
   replace h := mpd h
   obtain ⟨_, _, rfl⟩ := h
   exact absurd hz Bool.false_ne_true
  | _ => exact nope h
 | _ => exact .inr fun a b e => absurd (show true = false from congrArg (zipOk true) e) Bool.noConfusion
theorem evX_var {i : Nat} (h : evX G φ (.var i) σ = some p) : getS σ i = .val p := Slot.val_of h
theorem sx_cmp {l r : PySem.Expr} {op : CmpOp} {a b : PV} {c : Bool} (hu : A.units < cLine) (hm : behindInMarks op r = false) (h1 : Ev prog w A O (eval l env) a s) (h2 : ∀ s', Kp s s' → Ev prog w A O (eval r env) b s') (hp : cmpP op a b = some c) :
  SX prog w A cx env (.Compare l [op] [r] pos) x O σ s (.bool c) :=
 ⟨s_cmp hu hm h1 h2 hp, fun d hd => by (obtain rfl := oi hd; clear hd); exact t_cmp hu hm h1 h2 hp⟩
theorem SX.as {y : X} (h : SX prog w A cx env e x O σ s p) : SX prog w A cx env e y O σ s p := ⟨h.ev, h.tr⟩
section
variable {n : Nat} {l r c a b v : PySem.Expr} {op : CmpOp}
theorem x_const {c : Const} {k : Nat} (h : (litOf c).map X.const = some x) : SXa prog w A G φ hb cx env (.Constant c k pos) x := by
 replace h := mpd h
 obtain ⟨q, hq, rfl⟩ := h
 intro O σ s p ok hv
 obtain rfl := oi hv
 exact sx_plain ((ev_const hq).up) fun z1 => rfl
theorem x_name (g : Glob prog w G φ hb gl fn A mg mb) (hgl : cx.gl = gl) {y : Str} (h : (match slotOf cx y with
   | some i => some (.var i)
   | none => if isGlob cx y then (cx.gl.idxOf? y).map X.glob else none) = some x) : SXa prog w A G φ hb cx env (.Name y pos) x := by
 cases hi : slotOf cx y with
 | some i =>
  rw [hi] at h
  obtain rfl := oi h
  intro O σ s p ok hv
  obtain ⟨v, rd, rl⟩ := ok.rds.val i y p (slotOf_some hi) (evX_var hv)
  exact sx_plain ((ev_var ok.eo.kind rd rl).up) fun z1 => rfl
 | none =>
  rw [hi] at h
  replace h := its h
  obtain ⟨hg, h⟩ := h
  replace h := mpd h
  obtain ⟨i, hi, rfl⟩ := h
  intro O σ s p ok hv
  obtain ⟨v, hv1, hv2⟩ := g.const i y p (by rw [← hgl]; exact idxOf?_get hi) hv
  exact sx_plain ((ev_glob ok.eo.kind (ok.eo.glob _ (isGlob_iff hg).1) ok.eo.gls (ok.ns g) hv1 (isGlob_iff hg).2 (hv2 _ _)).up) fun z1 => rfl
theorem x_bin {op : Operator} {x y : X} (h1 : SXa prog w A G φ hb cx env l x) (h2 : SXa prog w A G φ hb cx env r y) : SXa prog w A G φ hb cx env (.BinOp l op r pos) (.bin op x y) := by
 intro O σ s p ok hv
 replace hv := bnd hv
 obtain ⟨u, hu, hv⟩ := hv
 replace hv := bnd hv
 obtain ⟨v, hv, hp⟩ := hv
 exact sx_plain (s_bin ok.al (h1 O σ s u ok hu).ev (fun s' k => (h2 O σ s' v (ok.later k) hv).ev) hp) fun z1 => rfl
theorem x_un {op : UnaryOp} {x y : X} (h1 : SXa prog w A G φ hb cx env l x) (h : (match op with
   | .Not => some (.notX x)
   | .USub => some (.neg x)
   | _ => none) = some y) : SXa prog w A G φ hb cx env (.UnaryOp op l pos) y := by
 cases op with
 | Not =>
  obtain rfl := oi h
  intro O σ s p ok hv
  replace hv := bnd hv
  obtain ⟨u, hu, hv⟩ := hv
  replace hv := bnd hv
  obtain ⟨t, ht, hv⟩ := hv
  obtain rfl := oi hv
  have q := h1 O σ s u ok hu
  exact ⟨s_not q.ev ht, fun b hb => by (obtain rfl := oi hb; clear hb); exact t_not (q.tr t ht)⟩
 | USub =>
  obtain rfl := oi h
  intro O σ s p ok hv
  replace hv := bnd hv
  obtain ⟨u, hu, hv⟩ := hv
  replace hv := mpd hv
  obtain ⟨i, hi, rfl⟩ := hv
  rw [PV.int_of hi] at hu
  exact sx_plain (s_neg (h1 O σ s _ ok hu).ev) fun z1 => rfl
 | _ => exact nope h
theorem x_cmp {x y : X} (hu : A.units < cLine) (hm : behindInMarks op r = false) (h1 : SXa prog w A G φ hb cx env l x) (h2 : SXa prog w A G φ hb cx env r y) : SXa prog w A G φ hb cx env (.Compare l [op] [r] pos) (.cmp op x y) := by
 intro O σ s p ok hv
 replace hv := bnd hv
 obtain ⟨u, hu', hv⟩ := hv
 obtain ⟨v, hv', hp⟩ := bnd hv
 replace hp := mpd hp
 obtain ⟨c, hp', rfl⟩ := hp
 exact sx_cmp hu hm (h1 O σ s u ok hu').ev (fun s' k => (h2 O σ s' v (ok.later k) hv').ev) hp'
theorem x_ite {x y z : X} (h1 : SXa prog w A G φ hb cx env c x) (h2 : SXa prog w A G φ hb cx env a y) (h3 : SXa prog w A G φ hb cx env b z) : SXa prog w A G φ hb cx env (.IfExp c a b pos) (.ite x y z) := by
 intro O σ s p ok hv
 replace hv := bnd hv
 obtain ⟨u, hu, hv⟩ := hv
 obtain ⟨t, ht, hp⟩ := bnd hv
 have q1 := (h1 O σ s u ok hu).tr t ht
 have q2 : ∀ s', Kp s s' → SX prog w A cx env (if t = true then a else b) (.const .none) O σ s' p := fun s' k => by
  cases t with
  | true => exact (h2 O σ s' p (ok.later k) hp).as
  | false => exact (h3 O σ s' p (ok.later k) hp).as
 exact ⟨s_ite q1 fun s' k => (q2 s' k).ev, fun d hd => t_ite q1 fun s' k => (q2 s' k).tr d hd⟩
theorem x_slc {lo hi : Option PySem.Expr} {lp : Pos} {x y z : X} (h1 : SXa prog w A G φ hb cx env v x) (h2 : ∀ O σ s p, Ok hb cx env O σ s → evX G φ y σ = some p → Ev prog w A O (evalPart lo env) p s)
  (h3 : ∀ O σ s p, Ok hb cx env O σ s → evX G φ z σ = some p → Ev prog w A O (evalPart hi env) p s) : SXa prog w A G φ hb cx env (.Subscript v (.Slice lo hi none lp) pos) (.slc x y z) := by
 intro O σ s p ok hv
 replace hv := bnd hv
 obtain ⟨u, hu, hv⟩ := hv
 replace hv := bnd hv
 obtain ⟨y, hy, hv⟩ := hv
 obtain ⟨z, hz, hp⟩ := bnd hv
 exact sx_plain (s_slc ok.al (h1 O σ s u ok hu).ev (fun s' k => h2 O σ s' y (ok.later k) hy) (fun s' k => h3 O σ s' z (ok.later k) hz) hp) fun z1 => rfl
theorem x_idx {x y : X} (hn : notCut a = true) (h1 : SXa prog w A G φ hb cx env v x) (h2 : SXa prog w A G φ hb cx env a y) : SXa prog w A G φ hb cx env (.Subscript v a pos) (.idx x y) := by
 intro O σ s p ok hv
 replace hv := bnd hv
 obtain ⟨u, hu, hv⟩ := hv
 obtain ⟨y, hy, hp⟩ := bnd hv
 exact sx_plain (s_idx hn (h1 O σ s u ok hu).ev (fun s' k => (h2 O σ s' y (ok.later k) hy).ev) hp) fun z1 => rfl
theorem x_idxO {y : Str} {yp : Pos} {j : Nat} {z : X} (hn : notCut a = true) (hj : slotOf cx y = some j) (h2 : SXa prog w A G φ hb cx env a z) : SXa prog w A G φ hb cx env (.Subscript (.Name y yp) a pos) (.idxO j z) := by
 intro O σ s p ok hv
 replace hv : (match getS σ j with
   | .own l => (evX G φ z σ).bind fun y => idxP (.lst l) y
   | .val p => (evX G φ z σ).bind fun y => idxP p y
   | .no => none) = some p := hv
 cases hl : getS σ j with
 | own l =>
  rw [hl] at hv
  obtain ⟨y', hy, hp⟩ := bnd hv
  refine cps fun PP kk => ?_
  obtain ⟨a, vs, rd, il, rl⟩ := ok.rds.own j y l (slotOf_some hj) hl
  refine kk ?_
  clear kk PP
  exact sx_plain (s_idxO hn ok.eo.kind rd il rl (fun s' k => (h2 O σ s' y' (ok.later k) hy).ev) hp) fun z1 => rfl
 | val q =>
  rw [hl] at hv
  obtain ⟨y', hy, hp⟩ := bnd hv
  obtain ⟨v, rd, rl⟩ := ok.rds.val j y q (slotOf_some hj) hl
  exact sx_plain (s_idx hn ((ev_var ok.eo.kind rd rl).up) (fun s' k => (h2 O σ s' y' (ok.later k) hy).ev) hp) fun z1 => rfl
 | no => rw [hl] at hv; exact nope hv
theorem x_row {es : List PySem.Expr} {xs : Xs} (h : ∀ O σ s ps, Ok hb cx env O σ s → evXs G φ xs σ = some ps → EvAll prog w A O env es ps s) : SXa prog w A G φ hb cx env (.List es pos) (.list xs) ∧ ∀ k, SXa prog w A G φ hb cx env (.Tuple es k pos) (.tup xs) := by
 refine ⟨fun O σ s p ok hv => ?_, fun k O σ s p ok hv => ?_⟩
 ·replace hv := bnd hv
  obtain ⟨ps, hps, hv⟩ := hv
  replace hv := its hv
  obtain ⟨hf, hv⟩ := hv
  obtain rfl := oi hv
  exact sx_plain (s_list ok.al (h O σ s ps ok hps) hf) fun z1 => rfl
 ·replace hv := bnd hv
  obtain ⟨ps, hps, hv⟩ := hv
  replace hv := its hv
  obtain ⟨hf, hv⟩ := hv
  obtain rfl := oi hv
  exact sx_plain (s_tup ok.al (h O σ s ps ok hps) hf) fun z1 => rfl
theorem x_lenO (g : Glob prog w G φ hb gl fn A mg mb) (L : Left prog w A G hb gl fn mg mb) {y : Str} {np yp : Pos} {i : Nat} (hg : isGlob cx "len" = true) (hi : slotOf cx y = some i) : SXa prog w A G φ hb cx env (.Call (.Name "len" np) [.Name y yp] [] pos) (.lenO i) := by
 intro O σ s p ok hv
 replace hv : (match getS σ i with
   | .own l => bfP .len [.lst l]
   | .val p => bfP .len [p]
   | .no => none) = some p := hv
 cases hl : getS σ i with
 | own l =>
  rw [hl] at hv
  refine cps fun PP kk => ?_
  obtain ⟨a, vs, rd, il, rl⟩ := ok.rds.own i y l (slotOf_some hi) hl
  refine kk ?_
  clear kk PP
  exact sx_plain (s_lenO (builtinName g ok.eo hg (by decide) boot_len) (ok.ns g) (ok.bi g) rd il rl hv) fun z1 => rfl
 | val q =>
  rw [hl] at hv
  obtain ⟨v, rd, rl⟩ := ok.rds.val i y q (slotOf_some hi) hl
  exact sx_plain (s_bf g
   (f := "len") (n := 1) rfl ok hg (by simp) ⟨q, [], rfl, rfl, fun s' k' => (ev_var ok.eo.kind (rd.above k'.above) (rl.above k'.above)).up, rfl⟩ hv) fun z1 => rfl
 | no => rw [hl] at hv; exact nope hv
theorem x_bf (g : Glob prog w G φ hb gl fn A mg mb) (L : Left prog w A G hb gl fn mg mb) {f : Str} {np : Pos} {es : List PySem.Expr} {xs : Xs} {m : Nat} {k : Bf} (hg : isGlob cx f = true) (hk : bfOf f m = some k) (hne : es ≠ []) (h : ∀ O σ s ps, Ok hb cx env O σ s → evXs G φ xs σ = some ps → EvAll prog w A O env es ps s) :
  SXa prog w A G φ hb cx env (.Call (.Name f np) es [] pos) (.bf k xs) := by
 intro O σ s p ok hv
 obtain ⟨ps, hps, hp⟩ := bnd hv
 exact sx_plain (s_bf g
  hk ok hg hne (h O σ s ps ok hps) hp) fun z1 => rfl
theorem x_call (g : Glob prog w G φ hb gl fn A mg mb) (hfn : cx.fn = fn) {f : Str} {np : Pos} {es : List PySem.Expr} {xs : Xs} {k : Nat} (hg : isGlob cx f = true) (hk : cx.fn.idxOf? f = some k) (hne : es ≠ []) (h : ∀ O σ s ps, Ok hb cx env O σ s → evXs G φ xs σ = some ps → EvAll prog w A O env es ps s) :
  SXa prog w A G φ hb cx env (.Call (.Name f np) es [] pos) (.call k xs) := by
 intro O σ s p ok hv
 obtain ⟨ps, hps, hp⟩ := bnd hv
 refine cps fun PP kk => ?_
 obtain ⟨fa, o, fd, h1, h2, h3, h4⟩ := g.fns k f (by rw [← hfn]; exact idxOf?_get hk)
 refine kk ?_
 clear kk PP
 cases es with
 | nil => exact absurd rfl hne
 | cons e r =>
  exact sx_plain (s_call_def ok.eo.kind (ok.eo.glob _ (isGlob_iff hg).1) ok.eo.gls (ok.ns g) h1 (isGlob_iff hg).2 (ok.base _ _ h2) h3 (h O σ s ps ok hps)
   fun vs s' k' r' => h4 O s' ps vs p ((ok.later k').base) ((ok.later k').tok) ((ok.later k').al) r' hp) fun z1 => rfl
theorem x_mf {name : Str} {apos : Pos} {es : List PySem.Expr} {k : Mf} {y : X} {xs : Xs} (hk : mfOf name es.length = some k) (hline : (apos.endLine == pos.line) = true) (hbase : baseOk v = true) (h1 : SXa prog w A G φ hb cx env v y) (h : ∀ O σ s ps, Ok hb cx env O σ s → evXs G φ xs σ = some ps → EvAll prog w A O env es ps s) :
  SXa prog w A G φ hb cx env (.Call (.Attribute v name apos) es [] pos) (.mf k y xs) := by
 intro O σ s p ok hv
 replace hv := bnd hv
 obtain ⟨u, hu, hv⟩ := hv
 obtain ⟨ps, hps, hp⟩ := bnd hv
 exact sx_plain (s_mf hk ok hbase hline (h1 O σ s u ok hu).ev (h O σ s ps ok hps) hp) fun z1 => rfl
theorem x_b1 (L : Left prog w A G hb gl fn mg mb) {y : X} {np : Pos} (hg : isGlob cx "b1_set" = true) (h1 : SXa prog w A G φ hb cx env l y) : SXa prog w A G φ hb cx env (.Compare l [.In] [.Name "b1_set" np] pos) (.inB1 y) := by
 intro O σ s p ok hv
 replace hv := bnd hv
 obtain ⟨u, hu, hv⟩ := hv
 replace hv := mpd hv
 obtain ⟨i, hi, rfl⟩ := hv
 rw [PV.int_of hi] at hu
 exact (L.b1 cx env O σ s l np pos _ ok hg (h1 O σ s _ ok hu).ev).as
theorem x_b3 (L : Left prog w A G hb gl fn mg mb) {y : X} {np apos : Pos} (hg : isGlob cx "b3_exceptions" = true) (hline : (apos.endLine == pos.line) = true) (hn : notStar a = true) (h1 : SXa prog w A G φ hb cx env a y) :
  SXa prog w A G φ hb cx env (.Call (.Attribute (.Name "b3_exceptions" np) "get" apos) [a] [] pos) (.getB3 y) := by
 intro O σ s p ok hv
 replace hv := bnd hv
 obtain ⟨u, hu, hv⟩ := hv
 replace hv := mpd hv
 obtain ⟨i, hi, rfl⟩ := hv
 rw [PV.int_of hi] at hu
 exact sx_plain (L.b3 cx env O σ s a np apos pos _ ok hline hg (fun s' k => (h1 O σ s' _ (ok.later k) hu).ev) hn) fun z1 => rfl
theorem x_repl (L : Left prog w A G hb gl fn mg mb) {y : X} {apos p1 p2 : Pos} {a b : Str} {k1 k2 : Nat} (hline : (apos.endLine == pos.line) = true) (hbase : baseOk v = true) (hab : a ≠ b) (h1 : SXa prog w A G φ hb cx env v y) :
  SXa prog w A G φ hb cx env (.Call (.Attribute v "replace" apos) [.Constant (.str a) k1 p1, .Constant (.str b) k2 p2] [] pos) (.repl y a.cps.toList b.cps.toList) := by
 intro O σ s p ok hv
 replace hv := bnd hv
 obtain ⟨u, hu, hv⟩ := hv
 replace hv := bnd hv
 obtain ⟨t, ht, hv⟩ := hv
 replace hv := its hv
 obtain ⟨hf, hv⟩ := hv
 rw [PV.str_of ht] at hu
 obtain rfl := oi hv
 simp only [Bool.and_eq_true] at hf
 exact sx_plain (L.repl cx env O σ s v apos pos a b k1 p1 k2 p2 _ ok hline hbase hab (h1 O σ s _ ok hu).ev (fun e => by rw [e] at hf; simp at hf) hf.1.1 hf.1.2) fun z1 => rfl
end
theorem call_inv {n : Nat} {f : Str} {np : Pos} {args : List PySem.Expr} {kws : List Keyword} (h : cX (n + 1) cx (.Call (.Name f np) args kws pos) = some x) : kws = [] ∧ args ≠ [] ∧ isGlob cx f = true ∧
  ((∃ k xs, cx.fn.idxOf? f = some k ∧ cXs n cx args = some xs ∧ x = .call k xs) ∨ (∃ y i, lenIs cx f args = some y ∧ slotOf cx y = some i ∧ x = .lenO i) ∨
  ∃ k xs, bfOf f args.length = some k ∧ cXs n cx args = some xs ∧ x = .bf k xs) := by
 replace h := itn h
 obtain ⟨hk, h⟩ := h
 replace h := itn h
 obtain ⟨hg, h⟩ := h
 refine ⟨by simpa using hk, ?_⟩
 replace hg : isGlob cx f = true := by simpa using hg
 cases hi : cx.fn.idxOf? f with
 | some k =>
  rw [hi] at h
  replace h := itn h
  obtain ⟨he, h⟩ := h
  replace h := mpd h
  obtain ⟨xs, hxs, h⟩ := h
  exact ⟨fun e => (by rw [e] at he; cases he), hg, .inl ⟨k, xs, rfl, hxs, h.symm⟩⟩
 | none =>
  rw [hi] at h
  replace h := itn h
  obtain ⟨he, h⟩ := h
  refine ⟨fun e => (by rw [e, List.isEmpty_nil, Bool.or_true] at he; cases he), hg, .inr ?_⟩
  cases hl : lenIs cx f args with
  | some y =>
   rw [hl] at h
   replace h := mpd h
   obtain ⟨i, hi, h⟩ := h
   exact .inl ⟨y, i, rfl, hi, h.symm⟩
  | none =>
   rw [hl] at h
   refine .inr ?_
   replace h := bnd h
   obtain ⟨k, hk, h⟩ := h
   replace h := bnd h
   obtain ⟨xs, hxs, h⟩ := h
   exact ⟨k, xs, hk, hxs, (Option.some.inj h).symm⟩
theorem meth_inv {n : Nat} {o : PySem.Expr} {name : Str} {ap : Pos} {args : List PySem.Expr} {kws : List Keyword} (h : cX (n + 1) cx (.Call (.Attribute o name ap) args kws pos) = some x) : kws = [] ∧ (ap.endLine == pos.line) = true ∧ baseOk o = true ∧
  (((∃ np, o = .Name "b3_exceptions" np) ∧ isGlob cx "b3_exceptions" = true ∧ name = "get" ∧ ∃ a y, args = [a] ∧ cX n cx a = some y ∧ x = .getB3 y) ∨
  (∃ q y, replIs name args = some q ∧ cX n cx o = some y ∧ x = .repl y q.1.cps.toList q.2.cps.toList) ∨
  ∃ k y xs, mfOf name args.length = some k ∧ cX n cx o = some y ∧ cXs n cx args = some xs ∧ x = .mf k y xs) := by
 replace h := itn h
 obtain ⟨hk, h⟩ := h
 replace h := itn h
 obtain ⟨hc, h⟩ := h
 rw [Bool.not_eq_false', Bool.and_eq_true] at hc
 refine ⟨by simpa using hk, hc.1, hc.2, ?_⟩
 rcases ito h with ⟨hb, h⟩ | ⟨_, h⟩
 ·rw [Bool.and_eq_true, beq_iff_eq] at hb
  replace h := bnd h
  obtain ⟨a, ha, h⟩ := h
  replace h := mpd h
  obtain ⟨y, hy, h⟩ := h
  exact .inl ⟨(gIs_of hb.2).1, (gIs_of hb.2).2, hb.1, a, y, sole_of ha, hy, h.symm⟩
 ·refine .inr ?_
  cases hr : replIs name args with
  | some q =>
   rw [hr] at h
   replace h := bnd h
   obtain ⟨y, hy, h⟩ := h
   exact .inl ⟨q, y, rfl, hy, (Option.some.inj h).symm⟩
  | none =>
   rw [hr] at h
   refine .inr ?_
   replace h := bnd h
   obtain ⟨k, hk, h⟩ := h
   replace h := bnd h
   obtain ⟨y, hy, h⟩ := h
   replace h := bnd h
   obtain ⟨xs, hxs, h⟩ := h
   exact ⟨k, y, xs, hk, hy, hxs, (Option.some.inj h).symm⟩
theorem cX_comp {n : Nat} (ih : Snd prog w A G φ hb gl fn n) (hgl : cx.gl = gl) (hfn : cx.fn = fn) {elt : PySem.Expr} {gens : List Comprehension} {sc : Scope} {x : X} (h : cX (n + 1) cx (.ListComp elt gens sc pos) = some x) :
  ∃ t it ifs gs caps one tg i fs r, gens = ⟨t, it, ifs, 0⟩ :: gs ∧ ScOk sc ∧ (freeNames sc).mapM (slotC cx) = some caps ∧ x = .comp caps (localNames sc).length tg one i fs r ∧ PartsOk prog w A G φ hb (cxC cx sc) elt (⟨t, it, ifs, 0⟩ :: gs) t ifs one tg fs r ∧
   (∀ env, IterOk prog w A G φ hb cx env it i t ∧ ∀ v, foldedSetIterable it env v = pure v) := by
 cases gens with
 | nil => exact nope h
 | cons c gs =>
  obtain ⟨t, it, ifs, a⟩ := c
  replace h := itn h
  obtain ⟨hc, h⟩ := h
  rw [Bool.not_eq_false', Bool.and_eq_true, beq_iff_eq] at hc
  replace h := bnd h
  obtain ⟨caps, hcap, h⟩ := h
  replace h := bnd h
  obtain ⟨i, hi, h⟩ := h
  replace h := bnd h
  obtain ⟨q, htg, h⟩ := h
  replace h := bnd h
  obtain ⟨fs, hfs, h⟩ := h
  replace h := bnd h
  obtain ⟨r, hr, h⟩ := h
  obtain ⟨hz, hx⟩ := its h
  obtain rfl : a = 0 := hc.1
  exact ⟨t, it, ifs, gs, caps, q.1, q.2, i, fs, r, rfl, scopeOk_iff hc.2, hcap, (Option.some.inj hx).symm, fun cenv eo => ⟨tgtL_tg eo htg, ih.ifs _ cenv ifs fs hgl hfn hfs, ih.gs _ cenv _ 0 gs elt r hgl hfn rfl hr rfl eo⟩, fun env => ih.it cx env it i t hgl hfn hi (tgtL_shape htg hz)⟩
theorem step_sub {n : Nat} (ih : Snd prog w A G φ hb gl fn n) (hgl : cx.gl = gl) (hfn : cx.fn = fn) {v i : PySem.Expr} (h : cX (n + 1) cx (.Subscript v i pos) = some x) : SXa prog w A G φ hb cx env (.Subscript v i pos) x := by
 have X := fun {e x} (h : cX n cx e = some x) => ih.x cx env e x hgl hfn h
 replace h : (match cutIs i with
   | some q => (cX n cx v).bind fun a => (cOpt n cx q.1).bind fun l => (cOpt n cx q.2).bind fun h => some (.slc a l h)
   | none => match ownIs cx v with
    | some x => (slotOf cx x).bind fun s => (cX n cx i).bind fun b => some (.idxO s b)
    | none => (cX n cx v).bind fun a => (cX n cx i).bind fun b => some (.idx a b)) = some x := h
 cases hc : cutIs i with
 | some q =>
  rw [hc] at h
  obtain ⟨lp, rfl⟩ := cutIs_of hc
  replace h := bnd h
  obtain ⟨a, ha, h⟩ := h
  replace h := bnd h
  obtain ⟨lo, hlo, h⟩ := h
  replace h := bnd h
  obtain ⟨hi, hhi, h⟩ := h
  obtain rfl := oi h
  exact x_slc (X ha) (ih.o cx env q.1 lo hgl hfn hlo) (ih.o cx env q.2 hi hgl hfn hhi)
 | none =>
  rw [hc] at h
  cases ho : ownIs cx v with
  | some y =>
   rw [ho] at h
   obtain ⟨⟨yp, rfl⟩, _⟩ := ownIs_of ho
   replace h := bnd h
   obtain ⟨j, hj, h⟩ := h
   replace h := bnd h
   obtain ⟨b, hb', h⟩ := h
   obtain rfl := oi h
   exact x_idxO (cX_notCut hb') hj (X hb')
  | none =>
   rw [ho] at h
   replace h := bnd h
   obtain ⟨a, ha, h⟩ := h
   replace h := bnd h
   obtain ⟨b, hb', h⟩ := h
   obtain rfl := oi h
   exact x_idx (cX_notCut hb') (X ha) (X hb')
theorem step_cmp (g : Glob prog w G φ hb gl fn A mg mb) (L : Left prog w A G hb gl fn mg mb) {n : Nat} (ih : Snd prog w A G φ hb gl fn n) (hgl : cx.gl = gl) (hfn : cx.fn = fn) {l : PySem.Expr} {ops : List CmpOp} {rs : List PySem.Expr} (h : cX (n + 1) cx (.Compare l ops rs pos) = some x) : SXa prog w A G φ hb cx env (.Compare l ops rs pos) x := by
 have X := fun {e x} (h : cX n cx e = some x) => ih.x cx env e x hgl hfn h
 replace h : (match sole ops with
   | some op => (sole rs).bind fun r => if op == .In && gIs cx "b1_set" r then (cX n cx l).map .inB1 else (cX n cx l).bind fun a => (cX n cx r).bind fun b => some (.cmp op a b)
   | none =>
    none
   ) = some x := h
 cases ho : sole ops with
 | some op =>
  rw [ho] at h
  replace h := bnd h
  obtain ⟨r, hr, h⟩ := h
  rw [sole_of ho, sole_of hr]
  rcases ito h with ⟨hc, h'⟩ | ⟨_, h'⟩
  ·rw [Bool.and_eq_true, beq_iff_eq] at hc
   replace h' := mpd h'
   obtain ⟨a, ha, rfl⟩ := h'
   obtain ⟨⟨np, rfl⟩, hg⟩ := gIs_of hc.2
   rw [hc.1]
   exact x_b1 L hg (X ha)
  ·obtain ⟨a, ha, h⟩ := bnd h'
   replace h := bnd h
   obtain ⟨b, hb', h⟩ := h
   obtain rfl := oi h
   exact x_cmp g.units (cX_notSet hb' _) (X ha) (X hb')
 | none =>
  rw [ho] at h
  cases h
theorem step_call (g : Glob prog w G φ hb gl fn A mg mb) (L : Left prog w A G hb gl fn mg mb) {n : Nat} (ih : Snd prog w A G φ hb gl fn n) (hgl : cx.gl = gl) (hfn : cx.fn = fn) {c : PySem.Expr} {args : List PySem.Expr} {kws : List Keyword} (h : cX (n + 1) cx (.Call c args kws pos) = some x) : SXa prog w A G φ hb cx env (.Call c args kws pos) x := by
 have X := fun {e x} (h : cX n cx e = some x) => ih.x cx env e x hgl hfn h
 cases c with
 | Name f np =>
  replace h := call_inv h
  obtain ⟨rfl, hne, hg, h⟩ := h
  rcases h with ⟨k, xs, hk, hxs, rfl⟩ | ⟨y, i, hl, hi, rfl⟩ |
   ⟨k, xs, hk, hxs, rfl⟩
  ·exact x_call g hfn hg hk hne (ih.xs cx env args xs hgl hfn hxs)
  ·obtain ⟨rfl, p, rfl⟩ := lenIs_of hl
   exact x_lenO g L hg hi
  ·exact x_bf g L hg hk hne (ih.xs cx env args xs hgl hfn hxs)
 | Attribute o name ap =>
  replace h := meth_inv h
  refine cps fun PP kk => ?_
  obtain ⟨ee1, hline, hbase, h⟩ := h
  refine kk ?_
  clear kk PP
  subst ee1
  rcases h with ⟨⟨np, rfl⟩, hg, rfl, a, y, rfl, hy, rfl⟩ |
   ⟨q, y, hq, hy, rfl⟩ |
   ⟨k, y, xs, hk, hy, hxs, rfl⟩
  ·exact x_b3 L hg hline (cX_notStar hy) (X hy)
  ·refine cps fun PP kk => ?_
   obtain ⟨ee2, hab, k, p, k', p', ee3⟩ := replIs_of hq
   refine kk ?_
   clear kk PP
   subst ee2
   subst ee3
   exact x_repl L hline hbase hab (X hy)
  ·exact x_mf hk hline hbase (X hy) (ih.xs cx env args xs hgl hfn hxs)
 | _ => exact nope (itn h).2
theorem step_x (g : Glob prog w G φ hb gl fn A mg mb) (L : Left prog w A G hb gl fn mg mb) {n : Nat} (ih : Snd prog w A G φ hb gl fn n) (hgl : cx.gl = gl) (hfn : cx.fn = fn) (h : cX (n + 1) cx e = some x) : SXa prog w A G φ hb cx env e x := by
 have X := fun {e x} (h : cX n cx e = some x) => ih.x cx env e x hgl hfn h
 cases e with
 | Constant c k pos => exact x_const h
 | Name y pos => exact x_name g hgl h
 | BinOp l op r pos =>
  replace h := bnd h
  obtain ⟨a, ha, h⟩ := h
  replace h := bnd h
  obtain ⟨b, hb', h⟩ := h
  obtain rfl := oi h
  exact x_bin (X ha) (X hb')
 | UnaryOp op l pos =>
  replace h := bnd h
  obtain ⟨a, ha, h⟩ := h
  exact x_un (X ha) h
 | BoolOp op vs pos =>
  intro O σ s p ok hv
  obtain ⟨_, hE, hT⟩ := ih.b cx env op vs x hgl hfn h O σ s p ok hv
  exact ⟨by rw [arm_eval_BoolOp]; exact hE pos, fun b hb => by rw [arm_isTrue_BoolOp]; exact hT b hb⟩
 | Compare l ops rs pos => exact step_cmp g L ih hgl hfn h
 | IfExp c a b pos =>
  replace h := bnd h
  obtain ⟨x, hx, h⟩ := h
  replace h := bnd h
  obtain ⟨y, hy, h⟩ := h
  replace h := bnd h
  obtain ⟨z, hz, h⟩ := h
  obtain rfl := oi h
  exact x_ite (X hx) (X hy) (X hz)
 | Subscript v i pos => exact step_sub ih hgl hfn h
 | List es pos =>
  replace h := mpd h
  obtain ⟨xs, hxs, rfl⟩ := h
  exact (x_row (ih.xs cx env es xs hgl hfn hxs)).1
 | Tuple es k pos =>
  replace h := mpd h
  obtain ⟨xs, hxs, rfl⟩ := h
  exact (x_row (ih.xs cx env es xs hgl hfn hxs)).2 k
 | Call c args kws pos => exact step_call g L ih hgl hfn h
 | ListComp elt gens sc pos =>
  refine cps fun PP kk => ?_
  obtain ⟨t, it, ifs, gs, caps, one, tg, i, fs, r, ee1, so, hcap, ee2, hp, hit⟩ := cX_comp ih hgl hfn h
  refine kk ?_
  clear kk PP
  subst ee1
  subst ee2
  exact fun O σ s p ok hv => sx_plain (s_comp g.han so hcap hp (hit env).1 (hit env).2 ok hv) fun z1 => rfl
 | _ => exact nope h
end
end Rs.Internal
end
section
set_option tactic.hygienic false
open PySem PySem.Calls PyProof.Rows PySem.SeqAt PySem.Builtin.Str
namespace Rs.Internal
section
variable {prog : Program} {w : World} {A : Around} {G : Gl} {φ : Nat → List PV → Option PV} {hb : Heap} {gl fn : List Str} {mg mb : Str → Option Value} {cx : Cx} {env : Env} {O : List Addr} {σ : Store} {s : Shared} {p : PV} {pos : Pos} {e : PySem.Expr} {x : X}
theorem step_b {n : Nat} (ih : Snd prog w A G φ hb gl fn n) (hgl : cx.gl = gl) (hfn : cx.fn = fn) {op : BoolOp} : ∀ {es : List PySem.Expr} {x : X}, cBool (n + 1) cx op es = some x → SBa prog w A G φ hb cx env op es x
 | [], x, h => nope h
 | [e], x, h => by
  intro O σ s p ok hv
  have q := ih.x cx env e x hgl hfn h O σ s p ok hv
  refine ⟨by simp, fun pos => q.ev, fun b hb => ?_⟩
  have q' := q.tr b hb
  show wpAny _ _ _ _ _ _
  rw [arm_allTrue_cons]
  refine wpAny_bind (q'.use fun s₁ k₁ => ?_)
  cases op <;> cases b <;> exact wpAny_pure ⟨k₁, rfl⟩
 | e :: e2 :: r, x, h => by
  replace h := bnd h
  obtain ⟨a, ha, h⟩ := h
  replace h := bnd h
  obtain ⟨b, hb', h⟩ := h
  have hx := Option.some.inj h
  intro O σ s p ok hv
  refine ⟨by simp, fun pos => ?_, fun d hd => ?_⟩
  ·cases op with
   | And =>
    subst hx
    replace hv := bnd hv
    obtain ⟨u, hu, hv⟩ := hv
    obtain ⟨t, ht, hp⟩ := bnd hv
    refine s_bool (b := t) (ih.x cx env e a hgl hfn ha O σ s u ok hu).ev ht ?_
    cases t with
    | true => exact fun s' k => (ih.b cx env .And (e2 :: r) b hgl hfn hb' O σ s' p (ok.later k) hp).2.1 pos
    | false => simp only [Bool.false_eq_true, if_false, Option.some.injEq] at hp ⊢; exact hp.symm
   | Or =>
    subst hx
    replace hv := bnd hv
    obtain ⟨u, hu, hv⟩ := hv
    obtain ⟨t, ht, hp⟩ := bnd hv
    refine s_bool (b := t) (ih.x cx env e a hgl hfn ha O σ s u ok hu).ev ht ?_
    cases t with
    | false => exact fun s' k => (ih.b cx env .Or (e2 :: r) b hgl hfn hb' O σ s' p (ok.later k) hp).2.1 pos
    | true => simp only [if_true, Option.some.injEq] at hp; simp only [Bool.not_true, Bool.false_eq_true, if_false]; exact hp.symm
  ·cases op with
   | And =>
    subst hx
    replace hv := bnd hv
    obtain ⟨u, hu, hv⟩ := hv
    obtain ⟨t, ht, hp⟩ := bnd hv
    refine t_bool (b := t) ((ih.x cx env e a hgl hfn ha O σ s u ok hu).tr t ht) ?_
    cases t with
    | true => exact fun s' k => (ih.b cx env .And (e2 :: r) b hgl hfn hb' O σ s' p (ok.later k) hp).2.2 d hd
    | false =>
     simp only [Bool.false_eq_true, if_false, Option.some.injEq] at hp ⊢
     subst hp; rw [ht] at hd; exact (Option.some.inj hd).symm
   | Or =>
    subst hx
    replace hv := bnd hv
    obtain ⟨u, hu, hv⟩ := hv
    obtain ⟨t, ht, hp⟩ := bnd hv
    refine t_bool (b := t) ((ih.x cx env e a hgl hfn ha O σ s u ok hu).tr t ht) ?_
    cases t with
    | false => exact fun s' k => (ih.b cx env .Or (e2 :: r) b hgl hfn hb' O σ s' p (ok.later k) hp).2.2 d hd
    | true =>
     simp only [if_true, Option.some.injEq] at hp
     simp only [Bool.not_true, Bool.false_eq_true, if_false]
     subst hp; rw [ht] at hd; exact (Option.some.inj hd).symm
theorem step_o {n : Nat} (ih : Snd prog w A G φ hb gl fn n) (hgl : cx.gl = gl) (hfn : cx.fn = fn) {lo : Option PySem.Expr} (h : cOpt (n + 1) cx lo = some x) (ok : Ok hb cx env O σ s) (hv : evX G φ x σ = some p) : Ev prog w A O (evalPart lo env) p s := by
 cases lo with
 | none =>
  obtain rfl := oi h
  obtain rfl := oi hv
  exact wpAny_pure ⟨Kp.refl s, rfl⟩
 | some e =>
  exact (ih.x cx env e x hgl hfn h O σ s p ok hv).ev
theorem step_xs {n : Nat} (ih : Snd prog w A G φ hb gl fn n) (hgl : cx.gl = gl) (hfn : cx.fn = fn) {es : List PySem.Expr} {xs : Xs} {ps : List PV} (h : cXs (n + 1) cx es = some xs) (ok : Ok hb cx env O σ s) (hv : evXs G φ xs σ = some ps) : EvAll prog w A O env es ps s := by
 cases es with
 | nil =>
  obtain rfl := oi h
  exact (Option.some.inj hv).symm
 | cons e r =>
  replace h := bnd h
  obtain ⟨a, ha, h⟩ := h
  replace h := bnd h
  obtain ⟨b, hb', h⟩ := h
  obtain rfl := oi h
  replace hv := bnd hv
  obtain ⟨u, hu, hv⟩ := hv
  replace hv := bnd hv
  obtain ⟨us, hus, hv⟩ := hv
  obtain rfl := oi hv
  exact ⟨u, us, rfl, cX_notStar ha, fun s' k => (ih.x cx env e a hgl hfn ha O σ s' u (ok.later k) hu).ev, ih.xs cx env r b hgl hfn hb' O σ s us ok hus⟩
theorem step_ifs {n : Nat} (ih : Snd prog w A G φ hb gl fn n) (hgl : cx.gl = gl) (hfn : cx.fn = fn) {es : List PySem.Expr} {xs : Xs} (h : cXs (n + 1) cx es = some xs) : IfsOk prog w A G φ hb cx env es xs := by
 intro O σ s b ok hv
 cases es with
 | nil =>
  obtain rfl := oi h
  obtain rfl := oi hv
  exact wpAny_pure ⟨Kp.refl s, rfl⟩
 | cons e r =>
  replace h := bnd h
  obtain ⟨a, ha, h⟩ := h
  replace h := bnd h
  obtain ⟨xr, hr, h⟩ := h
  obtain rfl := oi h
  replace hv := bnd hv
  obtain ⟨u, hu, hv⟩ := hv
  replace hv := bnd hv
  obtain ⟨t, ht, hv⟩ := hv
  show wpAny _ _ (testsOf (e :: r) env) _ _ _
  unfold testsOf
  rw [List.forIn_cons]
  simp only [if_true]
  refine wpAny_bind (wpAny_bind (((ih.x cx env e a hgl hfn ha O σ s u ok hu).tr t ht).use fun s₁ k₁ => wpAny_pure ?_))
  cases t with
  | true =>
   simp only [if_true] at hv
   exact (ih.ifs cx env r xr hgl hfn hr O σ s₁ b (ok.later k₁) hv).use fun s₂ k₂ => ⟨k₁.trans k₂, rfl⟩
  | false =>
   simp only [Bool.false_eq_true, if_false, Option.some.injEq] at hv
   subst hv
   have fls : ∀ (l : List PySem.Expr), wpAny (model prog w) A (forIn l false fun c r => if r = true then do let ok ← PySem.isTrue c env (eval c env); pure (ForInStep.yield ok) else pure (ForInStep.yield r)) (fun c s' => Kp s s' ∧ c = false) (fun z1 z2 => False) s₁ := by
    intro l
    induction l with
    | nil => exact wpAny_pure ⟨k₁, rfl⟩
    | cons c l ihl => rw [List.forIn_cons]; simp only [Bool.false_eq_true, if_false]; exact wpAny_bind (wpAny_pure ihl)
   exact fls r
theorem it_val (hh : A.handled = none) {t : PySem.Expr} (h : SXa prog w A G φ hb cx env e x) : IterOk prog w A G φ hb cx env e (.val x) t := fun O σ s l ok hv => by
 replace hv := bnd hv
 obtain ⟨u, hu, hv⟩ := hv
 replace hv := bnd hv
 obtain ⟨q, hq, hv⟩ := hv
 replace hv := its hv
 obtain ⟨_, hv⟩ := hv
 obtain rfl := oi hv
 exact (h O σ s u ok hu).ev.use fun v s₁ k₁ r₁ => ⟨k₁, iterVal_rel hh (ok.al.above k₁.above) k₁.above r₁ hq⟩
theorem it_own (hh : A.handled = none) {t : PySem.Expr} {y : Str} {yp : Pos} {j : Nat} (ho : cx.own.contains y = true) (hj : slotOf cx y = some j) : IterOk prog w A G φ hb cx env (.Name y yp) (.own j) t := fun O σ s l ok hv => by
 replace hv : (match getS σ j with
   | .own l => if fitL l.length then some l else none
   | .val p => (itemsP p).bind fun l => if fitL l.length then some l else none
   | .no => none) = some l := hv
 have he : cx.own.isEmpty = false := by
  cases hc : cx.own with
  | nil => rw [hc] at ho; exact absurd ho Bool.false_ne_true
  | cons z1 z2 => rfl
 rw [he]
 cases hl : getS σ j with
 | own l' =>
  rw [hl] at hv
  replace hv := its hv
  obtain ⟨_, hv⟩ := hv
  obtain rfl := oi hv
  refine cps fun PP kk => ?_
  obtain ⟨a, vs, rd, il, rl⟩ := ok.rds.own j y _ (slotOf_some hj) hl
  refine kk ?_
  clear kk PP
  exact wpAny_Name (rd.load ok.eo.kind ⟨Kp.refl s, iterVal_own hh (Above.refl _) il rl⟩) rd.1
 | val q =>
  rw [hl] at hv
  replace hv := bnd hv
  obtain ⟨l', hl', hv⟩ := hv
  replace hv := its hv
  obtain ⟨_, hv⟩ := hv
  obtain rfl := oi hv
  obtain ⟨v, rd, rl⟩ := ok.rds.val j y q (slotOf_some hj) hl
  exact wpAny_Name (rd.load ok.eo.kind ⟨Kp.refl s, iterVal_rel hh ok.al (Above.refl _) rl hl'⟩) rd.1
 | no => rw [hl] at hv; exact nope hv
theorem step_it (g : Glob prog w G φ hb gl fn A mg mb) (L : Left prog w A G hb gl fn mg mb) {n : Nat} (ih : Snd prog w A G φ hb gl fn n) (hgl : cx.gl = gl) (hfn : cx.fn = fn) {i : It} {t : PySem.Expr} (h : cIt (n + 1) cx e = some i)
  (ht : (∃ es k p, t = .Tuple es k p) ∨ ∀ a b, i ≠ .zip a b) : IterOk prog w A G φ hb cx env e i t ∧ ∀ v, foldedSetIterable e env v = pure v := by
 replace h : (match ownIs cx e with
  | some x => (slotOf cx x).map .own
  | none =>
    (cX n cx e).map .val) = some i := h
 cases ho : ownIs cx e with
 | some y =>
  rw [ho] at h
  obtain ⟨⟨yp, rfl⟩, hc⟩ := ownIs_of ho
  replace h := mpd h
  obtain ⟨j, hj, rfl⟩ := h
  exact ⟨it_own g.han hc hj, fun v => rfl⟩
 | none =>
  rw [ho] at h
  replace h := mpd h
  obtain ⟨a, ha, rfl⟩ := h
  exact ⟨it_val g.han (ih.x cx env e a hgl hfn ha), cX_folded ha⟩
theorem step_gs {n : Nat} (ih : Snd prog w A G φ hb gl fn n) (hgl : cx.gl = gl) (hfn : cx.fn = fn) {gens : List Comprehension} {d : Nat} {gs : List Comprehension} {elt : PySem.Expr} {r : Gs} (hd : gens.drop (d + 1) = gs) (h : cGs (n + 1) cx gs elt = some r)
  (hown : cx.own = []) (eo : EnvOk cx env) : GsS prog w A G φ hb elt gens cx env d r := by
 cases gs with
 | nil =>
  replace h := mpd h
  obtain ⟨a, ha, rfl⟩ := h
  refine .fin d a ?_ fun O σ s p ok hv => (ih.x cx env elt a hgl hfn ha O σ s p ok hv).ev
  rw [List.getElem?_eq_none]; rw [List.drop_eq_nil_iff] at hd; exact hd
 | cons c gs =>
  refine cps fun PP kk => ?_
  obtain ⟨t, it, ifs, a⟩ := c
  refine kk ?_
  clear kk PP
  replace h := itn h
  obtain ⟨hc, h⟩ := h
  rw [Bool.not_eq_false', beq_iff_eq] at hc
  obtain rfl : a = 0 := hc
  replace h := bnd h
  obtain ⟨i, hi, h⟩ := h
  replace h := bnd h
  obtain ⟨q, htg, h⟩ := h
  replace h := bnd h
  obtain ⟨fs, hfs, h⟩ := h
  replace h := bnd h
  obtain ⟨r', hr, h⟩ := h
  replace h := its h
  obtain ⟨hz, h⟩ := h
  obtain rfl := oi h
  obtain ⟨hit, hset⟩ := ih.it cx env it i t hgl hfn hi (tgtL_shape htg hz)
  refine .cons d t it ifs q.2 q.1 i fs r' ?_ (tgtL_tg eo htg) hit hset (ih.ifs cx env ifs fs hgl hfn hfs) (ih.gs cx env gens (d + 1) gs elt r' hgl hfn ?_ hr hown eo)
  ·have := congrArg (·[0]?) hd
   simpa using this
  ·rw [← List.drop_drop, hd]; rfl
theorem snd_all (g : Glob prog w G φ hb gl fn A mg mb) (L : Left prog w A G hb gl fn mg mb) : ∀ n, Snd prog w A G φ hb gl fn n := by
 intro n
 induction n with
 | zero =>
  exact {
   x := fun z1 z2 z3 z4 z5 z6 h => nope h
   b := fun z1 z2 z3 z4 z5 z6 z7 h => nope h
   o := fun z1 z2 z3 z4 z5 z6 h => nope h
   xs := fun z1 z2 z3 z4 z5 z6 h => nope h
   ifs := fun z1 z2 z3 z4 z5 z6 h => nope h
   it := fun z1 z2 z3 z4 z5 z6 z7 h => nope h
   gs := fun z1 z2 z3 z4 z5 z6 z7 z8 z9 z10 h => nope h }
 | succ n ih__ =>
  exact {
   x := fun z1 z2 z3 z4 h1 h2 h => step_x g L (ih__) h1 h2 h
   b := fun z1 z2 z3 z4 z5 h1 h2 h => step_b (ih__) h1 h2 h
   o := fun z1 z2 z3 z4 h1 h2 h z5 z6 z7 z8 ok hv => step_o (ih__) h1 h2 h ok hv
   xs := fun z1 z2 z3 z4 h1 h2 h z5 z6 z7 z8 ok hv => step_xs (ih__) h1 h2 h ok hv
   ifs := fun z1 z2 z3 z4 h1 h2 h => step_ifs (ih__) h1 h2 h
   it := fun z1 z2 z3 z4 z5 h1 h2 h ht => step_it g L (ih__) h1 h2 h ht
   gs := fun z1 z2 z3 z4 z5 z6 z7 h1 h2 hd h ho eo => step_gs (ih__) h1 h2 hd h ho eo }
end
end Rs.Internal
end
section
set_option tactic.hygienic false
open PySem PySem.Calls PyProof.Rows PySem.SeqAt PySem.Builtin.Str
namespace Rs.Internal
noncomputable def IsOwn (σ : Store) (i : Nat) : Prop := ∃ l, getS σ i = .own l
structure SOk (hb : Heap) (Oo W : List Addr) (cx : Cx) (env : Env) (σ : Store) (s : Shared) : Prop where
 ok : Ok hb cx env (W ++ Oo) σ s
 loc : env.locals ∈ W
 cel : ∀ x c, env.cells.lookup x = some c → c ∈ W
 new : ∀ a ∈ W, hb.get? a = none
 sep : ∀ a ∈ W, a ∉ Oo
 nofree : ∀ x, cx.kind.lookup x ≠ some .free
 own : ∃ f : Nat → Addr, (∀ i x, cx.nm[i]? = some x → IsOwn σ i → Rd env s.heap x (.ref (f i)) ∧ f i ∈ W) ∧ ∀ i j, IsOwn σ i → IsOwn σ j → f i = f j → i = j
section
variable {prog : Program} {w : World} {A : Around} {G : Gl} {φ : Nat → List PV → Option PV} {F : Nat} {hb : Heap} {Oo W : List Addr} {cx : Cx} {env : Env} {σ : Store} {s s' : Shared} {p : PV} {pos : Pos}
theorem Rd.same {h : Heap} {x : Str} {v v' : Value} (a : Rd env h x v) (b : Rd env h x v') : v = v' := by
 obtain ⟨_, a⟩ := a
 obtain ⟨_, b⟩ := b
 rcases a with ⟨a1, m, a2, a3⟩ | ⟨a1, c, a2, o, a3, a4⟩ <;> rcases b with ⟨b1, m', b2, b3⟩ | ⟨b1, c', b2, o', b3, b4⟩
 ·rw [Heap.Ns.agree a2 b2 x, b3] at a3; exact (Option.some.inj a3).symm
 ·rcases b1 with b1 | ⟨b1, _⟩ <;> rw [a1] at b1 <;> cases b1
 ·rcases a1 with a1 | ⟨a1, _⟩ <;> rw [b1] at a1 <;> cases a1
 ·rw [a2] at b2; obtain rfl := oi b2
  rw [a3] at b3; obtain rfl := oi b3
  rw [a4] at b4; cases b4; rfl
theorem own_lt {i : Nat} (h : IsOwn σ i) : i < σ.length := by
 obtain ⟨l, h⟩ := h
 rcases Nat.lt_or_ge i σ.length with q | q
 ·exact q
 ·unfold getS at h; rw [List.getElem?_eq_none q] at h; exact Slot.dif h rfl
theorem SOk.later (k : SOk hb Oo W cx env σ s) (kp : Kp s s') : SOk hb Oo W cx env σ s' where
 ok := k.ok.later kp
 loc := k.loc
 cel := k.cel
 new := k.new
 sep := k.sep
 nofree := k.nofree
 own := by
  obtain ⟨f, h1, h2⟩ := k.own
  exact ⟨f, fun i x e o => ⟨(h1 i x e o).1.above kp.above, (h1 i x e o).2⟩, h2⟩
set_option tactic.hygienic true in
theorem freeze1 (k : SOk hb Oo W cx env σ s) (i : Nat) : ∃ W', SOk hb Oo W' cx env (σ.set i (frzS (getS σ i))) s ∧ ∀ a ∈ W', a ∈ W := by
 cases hs : getS σ i with
 | no =>
  have e : σ.set i (frzS .no) = σ ∨ True := .inr trivial
  refine ⟨W, ?_, fun a m => m⟩
  have hg : ∀ j, getS (σ.set i (frzS .no)) j = getS σ j := fun j => by
   rw [getS_set]; split
   ·rename_i q; rw [← q.1, hs]; rfl
   ·rfl
  exact { k with
   ok := k.ok.weaken (by simp) fun j => .inr (hg j)
   own := by
    obtain ⟨f, h1, h2⟩ := k.own
    have ho : ∀ j, IsOwn (σ.set i (frzS .no)) j → IsOwn σ j := fun j ⟨l, e⟩ => ⟨l, by rw [← hg j]; exact e⟩
    exact ⟨f, fun j x e o => h1 j x e (ho j o), fun a b c d => h2 a b (ho a c) (ho b d)⟩ }
 | val p =>
  refine ⟨W, ?_, fun a m => m⟩
  have hg : ∀ j, getS (σ.set i (frzS (.val p))) j = getS σ j := fun j => by
   rw [getS_set]; split
   ·rename_i q; rw [← q.1, hs]; rfl
   ·rfl
  exact { k with
   ok := k.ok.weaken (by simp) fun j => .inr (hg j)
   own := by
    obtain ⟨f, h1, h2⟩ := k.own
    have ho : ∀ j, IsOwn (σ.set i (frzS (.val p))) j → IsOwn σ j := fun j ⟨l, e⟩ => ⟨l, by rw [← hg j]; exact e⟩
    exact ⟨f, fun j x e o => h1 j x e (ho j o), fun a b c d => h2 a b (ho a c) (ho b d)⟩ }
 | own l =>
  obtain ⟨f, h1, h2⟩ := k.own
  have hil := own_lt ⟨l, hs⟩
  have hx : ∃ x, cx.nm[i]? = some x := ⟨_, List.getElem?_eq_getElem (by rw [← k.ok.rds.len]; exact hil)⟩
  obtain ⟨x, hx⟩ := hx
  obtain ⟨hrd, hfW⟩ := h1 i x hx ⟨l, hs⟩
  refine cps fun PP kk => ?_
  obtain ⟨a, vs, rd, il, rl⟩ := k.ok.rds.own i x l hx hs
  refine kk ?_
  clear kk PP
  have hfa : f i = a := by have := hrd.same rd; cases this; rfl
  subst hfa
  have hg : ∀ j, j ≠ i → getS (σ.set i (frzS (.own l))) j = getS σ j := fun j hj => by rw [getS_set, if_neg (fun q => hj q.1.symm)]
  have hgi : getS (σ.set i (frzS (.own l))) i = .val (.lst l) := by rw [getS_set, if_pos ⟨rfl, hil⟩]; rfl
  let W' := W.filter fun b => b != f i
  have hsub : ∀ b ∈ W', b ∈ W := fun b m => (List.mem_filter.mp m).1
  have hin : ∀ b ∈ W, b ≠ f i → b ∈ W' := fun b m e => List.mem_filter.mpr ⟨m, by simpa using e⟩
  have hsubO : ∀ b ∈ W' ++ Oo, b ∈ W ++ Oo := fun b m => (List.mem_append.mp m).elim (fun m => List.mem_append_left _ (hsub b m)) fun m => List.mem_append_right _ m
  have hnot : f i ∉ W' ++ Oo := fun m => by
   rcases List.mem_append.mp m with m | m
   ·have := (List.mem_filter.mp m).2
    simp at this
   ·exact k.sep _ hfW m
  have hloc : env.locals ≠ f i := fun e => by
   refine cps fun PP kk => ?_
   obtain ⟨m, o, es, ep, e1, e2, _⟩ := k.ok.rds.ns
   refine kk ?_
   clear kk PP
   obtain ⟨n, e3⟩ := il
   rw [e, e3] at e1; (obtain rfl := oi e1; clear e1); cases e2
  have hcelne : ∀ y c, env.cells.lookup y = some c → c ≠ f i := fun y c hc e => by
   refine cps fun PP kk => ?_
   obtain ⟨v, o, e1, e2⟩ := k.ok.rds.cells y c hc
   refine kk ?_
   clear kk PP
   obtain ⟨n, e3⟩ := il
   rw [e, e3] at e1; (obtain rfl := oi e1; clear e1); cases e2
  have hlocW : env.locals ∈ W' := hin _ k.loc hloc
  refine ⟨W', ?_, hsub⟩
  exact {
   ok := {
    eo := k.ok.eo
    fw := ⟨k.ok.fw.kind, k.ok.fw.nodup, List.mem_append_left _ hlocW, fun y c z1 hc => List.mem_append_left _ (hin _ (k.cel y c hc) (hcelne y c hc)), k.ok.fw.apart, k.ok.fw.off⟩
    rds := {
     len := by rw [List.length_set]; exact k.ok.rds.len
     ns := k.ok.rds.ns
     cells := k.ok.rds.cells
     val := fun j y p e1 e2 => by
      by_cases hj : j = i
      ·subst hj
       rw [hgi] at e2; cases e2
       rw [hx] at e1; obtain rfl := oi e1
       exact ⟨_, rd, f j, vs, rfl, hnot, il, RelL.mono hsubO _ _ rl⟩
      ·rw [hg j hj] at e2
       obtain ⟨v, q1, q2⟩ := k.ok.rds.val j y p e1 e2
       exact ⟨v, q1, Rel.mono hsubO _ _ q2⟩
     own := fun j y l' e1 e2 => by
      have hj : j ≠ i := fun e => by subst e; rw [hgi] at e2; exact Slot.dif e2 rfl
      rw [hg j hj] at e2
      refine cps fun PP kk => ?_
      obtain ⟨b, us, q1, q2, q3⟩ := k.ok.rds.own j y l' e1 e2
      refine kk ?_
      clear kk PP
      exact ⟨b, us, q1, q2, RelL.mono hsubO _ _ q3⟩ }
    al := k.ok.al.sub hsubO
    base := k.ok.base
    tok := k.ok.tok }
   loc := hlocW
   cel := fun y c hc => hin _ (k.cel y c hc) (hcelne y c hc)
   new := fun b m => k.new b (hsub b m)
   sep := fun b m => k.sep b (hsub b m)
   nofree := k.nofree
   own := by
    have ho : ∀ j, IsOwn (σ.set i (frzS (.own l))) j → IsOwn σ j ∧ j ≠ i := fun j ⟨l', e⟩ => by
     by_cases hj : j = i
     ·subst hj; rw [hgi] at e; exact Slot.dif e rfl
     ·exact ⟨⟨l', by rw [← hg j hj]; exact e⟩, hj⟩
    refine ⟨f, fun j y e o => ?_, fun a b c d => h2 a b (ho a c).1 (ho b d).1⟩
    obtain ⟨o1, o2⟩ := ho j o
    obtain ⟨q1, q2⟩ := h1 j y e o1
    exact ⟨q1, hin _ q2 fun e => o2 (h2 j i o1 ⟨l, hs⟩ e)⟩ }
theorem freeze : ∀ (fr : List Nat) {σ : Store} {W : List Addr}, SOk hb Oo W cx env σ s → ∃ W', SOk hb Oo W' cx env (frz fr σ) s ∧ ∀ a ∈ W', a ∈ W := by
 intro fr
 induction fr with
 | nil =>
  intro σ W k
  exact ⟨W, k, fun z1 m => m⟩
 | cons i fr ih__ =>
  intro σ W k
  obtain ⟨W₁, k₁, h₁⟩ := freeze1 k i
  obtain ⟨W₂, k₂, h₂⟩ := ih__ k₁
  exact ⟨W₂, k₂, fun a m => h₁ a (h₂ a m)⟩
end
end Rs.Internal
end
section
set_option tactic.hygienic false
open PySem PySem.Calls PyProof.Rows PySem.SeqAt PySem.Builtin.Str
namespace Rs.Internal
section
variable {prog : Program} {w : World} {A : Around} {G : Gl} {φ : Nat → List PV → Option PV} {F : Nat} {hb : Heap} {Oo W : List Addr} {cx : Cx} {env : Env} {σ : Store} {s₀ s s' : Shared} {p : PV} {pos : Pos}
set_option tactic.hygienic true in
theorem slotF_some {x : Str} {i : Nat} (eo : EnvOk cx env) (h : slotF cx x = some i) : cx.nm[i]? = some x ∧ (env.kindOf x = some .local ∨ (env.kindOf x = some .cell ∧ ∃ c, env.cells.lookup x = some c)) ∧ (x == ("__debug__" : Str)) = false := by
 revert h
 delta slotF
 cases hk : cx.kind.lookup x with
 | none => exact fun h => nope h
 | some k =>
  cases k with
  | «local» => exact fun h => ⟨idxOf?_get h, .inl (eo.loc x hk), eo.dbg x _ hk⟩
  | cell => exact fun h => ⟨idxOf?_get h, .inr (eo.cel x hk), eo.dbg x _ hk⟩
  | _ => exact fun h => nope h
theorem adopt {a : Addr} (k : SOk hb Oo W cx env σ s₀) (kp : Kp s₀ s) (ha : s₀.heap.get? a = none) (hl : ∃ o, s.heap.get? a = some o) : SOk hb Oo (a :: W) cx env σ s where
 ok := Ok.wide (wr := [a]) k.ok kp (fun b m => by rw [List.mem_singleton.mp m]; exact ha) (fun b m => by rw [List.mem_singleton.mp m]; exact hl)
 loc := List.mem_cons_of_mem _ k.loc
 cel := fun x c h => List.mem_cons_of_mem _ (k.cel x c h)
 new := fun b m => by
  rcases List.mem_cons.mp m with rfl | m
  ·exact off_base k.ok.base ha
  ·exact k.new b m
 sep := fun b m q => by
  rcases List.mem_cons.mp m with rfl | m
  ·obtain ⟨o, e⟩ := k.ok.al b (List.mem_append_right _ q); rw [ha] at e; exact nope e
  ·exact k.sep b m q
 nofree := k.nofree
 own := by
  obtain ⟨f, h1, h2⟩ := k.own
  exact ⟨f, fun i x e o => ⟨(h1 i x e o).1.above kp.above, List.mem_cons_of_mem _ (h1 i x e o).2⟩, h2⟩
theorem adopt_new {a : Addr} (k : SOk hb Oo W cx env σ s₀) (kp : Kp s₀ s) (ha : s₀.heap.get? a = none) : ∀ j y, cx.nm[j]? = some y → IsOwn σ j → ¬ Rd env s.heap y (.ref a) := fun j y hy ⟨l, ho⟩ hr => by
 obtain ⟨b, vs, rd, ⟨n, e⟩, _⟩ := k.ok.rds.own j y l hy ho
 have := (rd.above kp.above).same hr
 cases this
 rw [ha] at e; exact nope e
theorem SOk.storeX {x : Str} {i : Nat} {v : Value} {sl : Slot} {Q : Unit → Shared → Prop} {E : Value → Shared → Prop} (k : SOk hb Oo W cx env σ s) (hx : slotF cx x = some i) (hv : SlotRel (W ++ Oo) s.heap sl v)
  (hown : ∀ l, sl = .own l → ∃ a, v = .ref a ∧ a ∈ W ∧ ∀ j y, cx.nm[j]? = some y → IsOwn σ j → ¬ Rd env s.heap y (.ref a)) (h : ∀ s', SOk hb Oo W cx env (σ.set i sl) s' → Ch W s s' → (∀ y u, y ≠ x → Rd env s.heap y u → Rd env s'.heap y u) → Rd env s'.heap x v →
   (∀ b us, b ≠ env.locals → (∀ y c, env.cells.lookup y = some c → b ≠ c) → IsLst s.heap b us → IsLst s'.heap b us) → Q () s') :
  wpAny (model prog w) A (storeName env x v) Q E s := by
 obtain ⟨hn, hk, hd⟩ := slotF_some k.ok.eo hx
 have hil : i < σ.length := by rw [k.ok.rds.len]; exact (List.getElem?_eq_some_iff.mp hn).1
 refine wpAny_mono (wpAny_toks_of (Nat.le_refl s.toks) (storeSl (Q := fun z1 s' => SOk hb Oo W cx env (σ.set i sl) { s' with toks := s.toks + 0 } ∧ (∃ h' tk, s' = { s with heap := h', toks := tk } ∧ Agree W s.heap h') ∧ (∀ y u, y ≠ x → Rd env s.heap y u → Rd env s'.heap y u) ∧ Rd env s'.heap x v ∧
   (∀ b us, b ≠ env.locals → (∀ y c, env.cells.lookup y = some c → b ≠ c) → IsLst s.heap b us → IsLst s'.heap b us)) (E := fun z1 z2 => False) k.ok.fw k.ok.rds hn hk hd hv
  fun s' a ha hw hs hex e r' hrd hnew => ?_)) (fun z1 s' q => ?_) fun z1 z2 q => q.2.elim
 ·have haW : a ∈ W := by
   rcases hw with ⟨_, rfl⟩ | ⟨_, hc⟩
   ·exact k.loc
   ·exact k.cel _ _ hc
  have ag : Agree W s.heap s'.heap := fun b o hb e => hs.extBut b o (fun q => hb (q ▸ haW)) e
  have hlst : ∀ b us, b ≠ env.locals → (∀ y c, env.cells.lookup y = some c → b ≠ c) → IsLst s.heap b us → IsLst s'.heap b us := fun b us h1 h2 ⟨n, q⟩ => ⟨n, (hs.2 b (fun e' => by
   rcases hw with ⟨_, q'⟩ | ⟨_, q'⟩
   ·exact h1 (e'.trans q')
   ·exact h2 _ _ q' e')).trans q⟩
  refine ⟨?_, ⟨s'.heap, s'.toks, e, ag⟩, hrd, hnew, hlst⟩
  exact {
   ok := {
    eo := k.ok.eo
    fw := k.ok.fw
    rds := r'
    al := k.ok.al.same hs hex
    base := fun b o q => ag b o (fun m => by rw [k.new b m] at q; exact nope q) (k.ok.base b o q)
    tok := k.ok.tok }
   loc := k.loc
   cel := k.cel
   new := k.new
   sep := k.sep
   nofree := k.nofree
   own := by
    obtain ⟨f, h1, h2⟩ := k.own
    have hg : ∀ j, j ≠ i → getS (σ.set i sl) j = getS σ j := fun j hj => by rw [getS_set, if_neg (fun q => hj q.1.symm)]
    have hgi : getS (σ.set i sl) i = sl := by rw [getS_set, if_pos ⟨rfl, hil⟩]
    have ho : ∀ j, j ≠ i → IsOwn (σ.set i sl) j → IsOwn σ j := fun j hj ⟨l, e⟩ => ⟨l, by rw [← hg j hj]; exact e⟩
    have hname : ∀ j y, cx.nm[j]? = some y → j ≠ i → y ≠ x := fun j y hy hj e => by subst e; exact hj (nodup_idx k.ok.fw.nodup hy hn)
    by_cases hs' : ∃ l, sl = .own l
    ·obtain ⟨l, rfl⟩ := hs'
     obtain ⟨a', rfl, ha', hno⟩ := hown l rfl
     refine ⟨fun j => if j = i then a' else f j, fun j y hy o => ?_, fun j j' o o' e => ?_⟩
     ·by_cases hj : j = i
      ·subst hj
       rw [hn] at hy; obtain rfl := oi hy
       simp only [if_true]; exact ⟨hnew, ha'⟩
      ·simp only [hj, if_false]
       obtain ⟨q1, q2⟩ := h1 j y hy (ho j hj o)
       exact ⟨hrd y _ (hname j y hy hj) q1, q2⟩
     ·by_cases hj : j = i <;> by_cases hj' : j' = i
      ·rw [hj, hj']
      ·simp only [hj, hj', if_true, if_false] at e
       obtain ⟨y, hy⟩ : ∃ y, cx.nm[j']? = some y := ⟨_, List.getElem?_eq_getElem (by have := own_lt o'; rw [List.length_set, k.ok.rds.len] at this; exact this)⟩
       exact absurd (e ▸ (h1 j' y hy (ho j' hj' o')).1) (hno j' y hy (ho j' hj' o'))
      ·simp only [hj, hj', if_true, if_false] at e
       obtain ⟨y, hy⟩ : ∃ y, cx.nm[j]? = some y := ⟨_, List.getElem?_eq_getElem (by have := own_lt o; rw [List.length_set, k.ok.rds.len] at this; exact this)⟩
       exact absurd (e ▸ (h1 j y hy (ho j hj o)).1) (hno j y hy (ho j hj o))
      ·simp only [hj, hj', if_false] at e
       exact h2 j j' (ho j hj o) (ho j' hj' o') e
    ·have hni : ∀ j, IsOwn (σ.set i sl) j → j ≠ i := fun j ⟨l, e⟩ q => by subst q; rw [hgi] at e; exact hs' ⟨l, e⟩
     exact ⟨f, fun j y hy o => ⟨hrd y _ (hname j y hy (hni j o)) (h1 j y hy (ho j (hni j o) o)).1, (h1 j y hy (ho j (hni j o) o)).2⟩, fun j j' o o' e => h2 j j' (ho j (hni j o) o) (ho j' (hni j' o') o') e⟩ }
 ·obtain ⟨ht, q, ⟨h', tk, rfl, ag⟩, q1, q2, q3⟩ := q
  refine h _ ?_ ⟨⟨h', tk, rfl, ag⟩, ht⟩ q1 q2 q3
  exact { ok := { eo := q.ok.eo, fw := q.ok.fw, rds := q.ok.rds, al := q.ok.al, base := q.ok.base, tok := Nat.le_trans k.ok.tok ht }, loc := q.loc, cel := q.cel, new := q.new, sep := q.sep, nofree := q.nofree, own := q.own }
theorem SOk.store {x : Str} {i : Nat} {v : Value} {sl : Slot} {Q : Unit → Shared → Prop} {E : Value → Shared → Prop} (k : SOk hb Oo W cx env σ s) (hx : slotF cx x = some i) (hv : SlotRel (W ++ Oo) s.heap sl v)
  (hown : ∀ l, sl = .own l → ∃ a, v = .ref a ∧ a ∈ W ∧ ∀ j y, cx.nm[j]? = some y → IsOwn σ j → ¬ Rd env s.heap y (.ref a)) (h : ∀ s', SOk hb Oo W cx env (σ.set i sl) s' → Ch W s s' → Q () s') :
  wpAny (model prog w) A (storeName env x v) Q E s := k.storeX hx hv hown fun s' h1 h2 z1 z2 z3 => h s' h1 h2
end
end Rs.Internal
end
section
set_option tactic.hygienic false
open PySem PySem.Calls PyProof.Rows PySem.SeqAt PySem.Builtin.Str
namespace Rs.Internal
noncomputable def FlowOk (Oo : List Addr) : Fl → Flow → Shared → Prop
 | .nx, f, z1 => f = .next
 | .rt p, f, s => ∃ v, f = .ret v ∧ Rel Oo s.heap p v
noncomputable def PostS (hb : Heap) (Oo : List Addr) (cx : Cx) (env : Env) (W : List Addr) (s : Shared) (fl : Fl) (σ' : Store) (f : Flow) (s' : Shared) : Prop :=
 ∃ W', SOk hb Oo W' cx env σ' s' ∧ Ch W s s' ∧ (∀ a ∈ W', a ∈ W ∨ s.heap.get? a = none) ∧ FlowOk Oo fl f s'
section
variable {prog : Program} {w : World} {A : Around} {G : Gl} {φ : Nat → List PV → Option PV} {F : Nat} {hb : Heap} {Oo O O' W W₁ wr : List Addr} {cx : Cx} {env : Env} {σ σ' : Store} {s₀ s s₁ s' s₂ : Shared} {p : PV} {pos : Pos} {fl : Fl} {f : Flow}
theorem Ch.seq (a : Ch W s s₁) (b : Ch W₁ s₁ s₂) (h : ∀ x ∈ W₁, x ∈ W ∨ s.heap.get? x = none) : Ch W s s₂ := by
 obtain ⟨⟨h', tk, rfl, hk⟩, l⟩ := a
 obtain ⟨⟨h'', tk', rfl, hk'⟩, l'⟩ := b
 refine ⟨⟨h'', tk', rfl, fun x o hx e => hk' x o (fun m => ?_) (hk x o hx e)⟩, Nat.le_trans l l'⟩
 rcases h x m with q | q
 ·exact hx q
 ·rw [q] at e; exact nope e
theorem Ch.keeps {a : Addr} {o : Obj} (c : Ch W s s') (ha : a ∉ W) (e : s.heap.get? a = some o) : s'.heap.get? a = some o := c.agree a o ha e
theorem PostS.seq (a : Ch W s s₁) (h : ∀ x ∈ W₁, x ∈ W ∨ s.heap.get? x = none) (b : PostS hb Oo cx env W₁ s₁ fl σ' f s') : PostS hb Oo cx env W s fl σ' f s' := by
 refine cps fun PP kk => ?_
 obtain ⟨W', k, c, n, fo⟩ := b
 refine kk ?_
 clear kk PP
 refine ⟨W', k, a.seq c h, fun x m => ?_, fo⟩
 rcases n x m with q | q
 ·exact h x q
 ·by_cases hx : x ∈ W
  ·exact .inl hx
  ·right
   cases e : s.heap.get? x with
   | none => rfl
   | some o => rw [a.keeps hx e] at q; cases q
theorem PostS.kp (k : Kp s₀ s) (b : PostS hb Oo cx env W s fl σ' f s') : PostS hb Oo cx env W s₀ fl σ' f s' := PostS.seq k.ch (fun z1 m => .inl m) b
theorem PostS.sub (h : ∀ x ∈ W₁, x ∈ W) (b : PostS hb Oo cx env W₁ s fl σ' f s') : PostS hb Oo cx env W s fl σ' f s' := PostS.seq (Ch.refl _ _) (fun x m => .inl (h x m)) b
theorem Ok.sub (k : Ok hb cx env O σ s) (h : ∀ a ∈ O', a ∈ O) (hl : env.locals ∈ O') (hc : ∀ x c, env.cells.lookup x = some c → c ∈ O') : Ok hb cx env O' σ s where
 eo := k.eo
 fw := ⟨k.fw.kind, k.fw.nodup, hl, fun x c z1 e => hc x c e, k.fw.apart, k.fw.off⟩
 rds := k.rds.mono h
 al := k.al.sub h
 base := k.base
 tok := k.tok
theorem SOk.hide (k : SOk hb Oo W cx env σ s₀) (kp : Kp s₀ s) (hw : ∀ a ∈ wr, s₀.heap.get? a = none) (al : Alive wr s.heap) : SOk hb (wr ++ Oo) W cx env σ s := by
 have k' := k.later kp
 exact {
  ok := Ok.sub (Ok.wide k.ok kp hw al) (fun a m => by simp only [List.mem_append] at m ⊢; rcases m with m | m | m; exact .inr (.inl m); exact .inl m; exact .inr (.inr m)) (List.mem_append_left _ k.loc) fun x c e => List.mem_append_left _ (k.cel x c e)
  loc := k.loc
  cel := k.cel
  new := k.new
  sep := fun a m q => by
   rcases List.mem_append.mp q with q | q
   ·obtain ⟨o, e⟩ := k.ok.al a (List.mem_append_left _ m); rw [hw a q] at e; exact nope e
   ·exact k.sep a m q
  nofree := k.nofree
  own := k'.own }
theorem SOk.ownNot (k : SOk hb Oo W cx env σ s) (h : ∀ a ∈ W, a ∉ wr) : ∀ i x l, cx.nm[i]? = some x → getS σ i = .own l → ∀ a, Rd env s.heap x (.ref a) → a ∉ wr := fun i x l hx ho a hr => by
 obtain ⟨f, h1, _⟩ := k.own
 obtain ⟨q1, q2⟩ := h1 i x hx ⟨l, ho⟩
 have := hr.same q1
 cases this
 exact h _ q2
theorem rd_agree {h h' : Heap} {x : Str} {v : Value} (k : Agree wr h h') (h1 : env.locals ∉ wr) (h2 : ∀ c, env.cells.lookup x = some c → c ∉ wr) (r : Rd env h x v) : Rd env h' x v := ⟨r.1, by
 rcases r.2 with ⟨a, m, b, c⟩ | ⟨a, c, b, o, e1, e2⟩
 ·exact .inl ⟨a, m, b.at' fun o e => k _ o h1 e, c⟩
 ·exact .inr ⟨a, c, b, o, k _ o (h2 _ b) e1, e2⟩⟩
theorem SOk.touch (k : SOk hb (wr ++ Oo) W cx env σ s) (c : Ch wr s s') (hwb : ∀ a ∈ wr, hb.get? a = none) (al : Alive wr s'.heap) : SOk hb (wr ++ Oo) W cx env σ s' := by
 have hn : ∀ a ∈ W, a ∉ wr := fun a m q => k.sep a m (List.mem_append_left _ q)
 have hO : ∀ a ∈ wr, a ∈ W ++ (wr ++ Oo) := fun a m => List.mem_append_right _ (List.mem_append_left _ m)
 exact {
  ok := k.ok.ch c (k.ok.rds.agree c.agree hO (hn _ k.loc) (fun x d e => hn _ (k.cel x d e)) (k.ownNot hn)) (k.ok.al.agree c.agree al) hwb
  loc := k.loc
  cel := k.cel
  new := k.new
  sep := k.sep
  nofree := k.nofree
  own := by
   obtain ⟨f, h1, h2⟩ := k.own
   exact ⟨f, fun i x e o => ⟨rd_agree c.agree (hn _ k.loc) (fun d e => hn _ (k.cel x d e)) (h1 i x e o).1, (h1 i x e o).2⟩, h2⟩ }
theorem SOk.forget (k : SOk hb (wr ++ Oo) W cx env σ s) (c : Ch wr s s') (hwb : ∀ a ∈ wr, hb.get? a = none) (hd : ∀ a ∈ wr, a ∉ Oo) : SOk hb Oo W cx env σ s' := by
 have hn : ∀ a ∈ W, a ∉ wr := fun a m q => k.sep a m (List.mem_append_left _ q)
 have hO : ∀ a ∈ wr, a ∈ W ++ (wr ++ Oo) := fun a m => List.mem_append_right _ (List.mem_append_left _ m)
 have hsub : ∀ a ∈ W ++ Oo, a ∈ W ++ (wr ++ Oo) := fun a m => by simp only [List.mem_append] at m ⊢; rcases m with m | m; exact .inl m; exact .inr (.inr m)
 have r := k.ok.rds.agree c.agree hO (hn _ k.loc) (fun x d e => hn _ (k.cel x d e)) (k.ownNot hn)
 exact {
  ok := {
   eo := k.ok.eo
   fw := ⟨k.ok.fw.kind, k.ok.fw.nodup, List.mem_append_left _ k.loc, fun x d z1 e => List.mem_append_left _ (k.cel x d e), k.ok.fw.apart, k.ok.fw.off⟩
   rds := r.mono hsub
   al := fun a m => by
    obtain ⟨o, e⟩ := k.ok.al a (hsub a m)
    refine ⟨o, c.keeps (fun q => ?_) e⟩
    rcases List.mem_append.mp m with m | m
    ·exact hn a m q
    ·exact hd a q m
   base := k.ok.base.ch c hwb
   tok := Nat.le_trans k.ok.tok c.2 }
  loc := k.loc
  cel := k.cel
  new := k.new
  sep := fun a m q => k.sep a m (List.mem_append_right _ q)
  nofree := k.nofree
  own := by
   obtain ⟨f, h1, h2⟩ := k.own
   exact ⟨f, fun i x e o => ⟨rd_agree c.agree (hn _ k.loc) (fun d e => hn _ (k.cel x d e)) (h1 i x e o).1, (h1 i x e o).2⟩, h2⟩ }
end
end Rs.Internal
end
section
set_option tactic.hygienic false
open PySem PySem.Calls PyProof.Rows PySem.SeqAt PySem.Builtin.Str
namespace Rs.Internal
section
variable (prog : Program) (w : World) (A : Around) (G : Gl) (φ : Nat → List PV → Option PV) (F : Nat) (hb : Heap) (cx : Cx) (env : Env)
noncomputable def SSa (st : Stmt) (S : S) : Prop := ∀ Oo W σ s fl σ', SOk hb Oo W cx env σ s → exS G φ F S σ = some (fl, σ') → wpAny (model prog w) A (exec st env) (PostS hb Oo cx env W s fl σ') (fun z1 z2 => False) s
noncomputable def SBs (b : List Stmt) (B : Ss) : Prop := ∀ Oo W σ s fl σ', SOk hb Oo W cx env σ s → exSs G φ F B σ = some (fl, σ') → wpAny (model prog w) A (execs b env) (PostS hb Oo cx env W s fl σ') (fun z1 z2 => False) s
end
section
variable {prog : Program} {w : World} {A : Around} {G : Gl} {φ : Nat → List PV → Option PV} {F : Nat} {hb : Heap} {gl fn : List Str} {mg mb : Str → Option Value} {Oo O O' W W₁ wr : List Addr} {cx : Cx} {env : Env} {σ σ' : Store} {s₀ s s₁ s' s₂ : Shared} {p : PV} {pos : Pos} {fl : Fl} {f : Flow}
theorem b_nil : SBs prog w A G φ F hb cx env [] .nil := fun Oo W σ s fl σ' k h => by
 cases (show some (Fl.nx, σ) = some (fl, σ') from h)
 exact wpAny_execs_nil ⟨W, k, Ch.refl _ _, fun z1 m => .inl m, rfl⟩
theorem b_cons {st : Stmt} {b : List Stmt} {S : S} {B : Ss} (h1 : SSa prog w A G φ F hb cx env st S) (h2 : SBs prog w A G φ F hb cx env b B) : SBs prog w A G φ F hb cx env (st :: b) (.cons S B) := fun Oo W σ s fl σ' k h => by
 replace h := bnd h
 refine cps fun PP kk => ?_
 obtain ⟨⟨f1, σ₁⟩, he, h⟩ := h
 refine kk ?_
 clear kk PP
 refine wpAny_execs_cons (wpAny_mono (h1 Oo W σ s f1 σ₁ k he) (fun f s₁ q => ?_) fun z1 z2 x => x)
 cases f1 with
 | nx =>
  refine cps fun PP kk => ?_
  obtain ⟨W₁, k₁, c₁, n₁, ee1⟩ := q
  refine kk ?_
  clear kk PP
  subst ee1
  exact wpAny_mono (h2 Oo W₁ σ₁ s₁ fl σ' k₁ h) (fun f s₂ q => PostS.seq c₁ n₁ q) fun z1 z2 x => x
 | rt p =>
  cases (show some (Fl.rt p, σ₁) = some (fl, σ') from h)
  have q' := q
  refine cps fun PP kk => ?_
  obtain ⟨W₁, k₁, c₁, n₁, v, ee2, r⟩ := q'
  refine kk ?_
  clear kk PP
  subst ee2
  exact q
theorem s_if {c : PySem.Expr} {t e : List Stmt} {fr : List Nat} {x : X} {T E : Ss} (hx : SXa prog w A G φ hb cx env c x) (ht : SBs prog w A G φ F hb cx env t T) (he : SBs prog w A G φ F hb cx env e E) : SSa prog w A G φ F hb cx env (.If c t e pos) (.ifS fr x T E) := fun Oo W σ s fl σ' k h => by
 replace h := bnd h
 obtain ⟨p, hp, h⟩ := h
 replace h := bnd h
 obtain ⟨b, hb', h⟩ := h
 obtain ⟨W₁, k₁, hW⟩ := freeze fr k
 refine wpAny_If (((hx _ _ _ p k₁.ok hp).tr b hb').use fun s₁ kp => ?_)
 cases b with
 | true => exact wpAny_mono (ht Oo W₁ _ s₁ fl σ' (k₁.later kp) h) (fun f s₂ q => (q.kp kp).sub hW) fun z1 z2 x => x
 | false => exact wpAny_mono (he Oo W₁ _ s₁ fl σ' (k₁.later kp) h) (fun f s₂ q => (q.kp kp).sub hW) fun z1 z2 x => x
theorem s_ret {e : PySem.Expr} {fr : List Nat} {x : X} (hx : SXa prog w A G φ hb cx env e x) : SSa prog w A G φ F hb cx env (.Return (some e) pos) (.ret fr x) := fun Oo W σ s fl σ' k h => by
 replace h := bnd h
 obtain ⟨p, hp, h⟩ := h
 obtain ⟨rfl, rfl⟩ := pin h
 obtain ⟨W₁, k₁, hW⟩ := freeze fr k
 rw [arm_exec_Return]
 refine wpAny_bind (wpAny_standAt (wpAny_bind ((hx _ _ _ p k₁.ok hp).ev.use fun v s₁ kp r => wpAny_pure ?_)))
 exact PostS.sub hW (PostS.kp kp ⟨W₁, k₁.later kp, Ch.refl _ _, fun z1 m => .inl m, v, rfl, Rel.mono (fun a m => List.mem_append_right _ m) _ _ r⟩)
theorem s_assert {e : PySem.Expr} {x : X} (hx : SXa prog w A G φ hb cx env e x) : SSa prog w A G φ F hb cx env (.Assert e none pos) (.asrt x) := fun Oo W σ s fl σ' k h => by
 replace h := bnd h
 obtain ⟨p, hp, h⟩ := h
 replace h := bnd h
 obtain ⟨b, hb', h⟩ := h
 replace h := its h
 obtain ⟨hbt, h⟩ := h
 obtain ⟨rfl, rfl⟩ := pin h
 refine wpAny_Assert_holds (((hx _ _ _ p k.ok hp).tr b hb').use fun s₁ kp => ⟨hbt, ?_⟩)
 exact PostS.kp kp ⟨W, k.later kp, Ch.refl _ _, fun z1 m => .inl m, rfl⟩
theorem post_store {i : Nat} {sl : Slot} (k : SOk hb Oo W cx env (σ.set i sl) s') (c : Ch W s s') : PostS hb Oo cx env W s .nx (σ.set i sl) .next s' := ⟨W, k, c, fun z1 m => .inl m, rfl⟩
theorem ev_aug {a b : Value} {x y : PV} {op : Operator} (ha : Rel O s.heap x a) (hb' : Rel O s.heap y b) (hp : augP op x y = some p) : Ev0 prog w A O (inplaceOp op a b) p s := by
 cases op with
 | Add =>
  cases x with
  | int i =>
   replace hp := mpd hp
   obtain ⟨j, hj, rfl⟩ := hp
   rw [PV.int_of hj] at hb'
   refine cps fun PP kk => ?_
   obtain ⟨t, ee1⟩ := ha; obtain ⟨u, ee2⟩ := hb'
   refine kk ?_
   clear kk PP
   subst ee1
   subst ee2
   exact P.iadd_int ⟨Kp0.toks s _, rel_int _ _ _⟩
  | str i =>
   replace hp := bnd hp
   obtain ⟨j, hj, hp⟩ := hp
   rw [PV.str_of hj] at hb'
   refine cps fun PP kk => ?_
   obtain ⟨t, ee3⟩ := ha; obtain ⟨u, ee4⟩ := hb'
   refine kk ?_
   clear kk PP
   subst ee3
   subst ee4
   replace hp := its hp
   obtain ⟨hf, hp⟩ := hp
   replace hf := fitL_iff hf
   obtain rfl := oi hp
   exact SB.iadd (fun t' k => ⟨Kp0.toks s _, rel_str' _ _ (by rw [Str.cps_append, Array.toList_append])⟩) (fit_line (by rw [str_len, str_len]; lia))
  | _ => exact nope hp
 | Sub =>
  replace hp := intP_inv hp ha hb'
  refine cps fun PP kk => ?_
  obtain ⟨i, j, t, u, hp, ee5, ee6⟩ := hp
  refine kk ?_
  clear kk PP
  subst ee5
  subst ee6
  obtain rfl := oi hp
  exact P.isub_int ⟨Kp0.toks s _, rel_int _ _ _⟩
 | _ => exact nope hp
theorem s_aug {y : Str} {np : Pos} {op : Operator} {value : PySem.Expr} {fr : List Nat} {i : Nat} {x : X} (hx : SXa prog w A G φ hb cx env value x) (hi : slotF cx y = some i) : SSa prog w A G φ F hb cx env (.AugAssign (.Name y np) op value pos) (.aug fr i op x) := fun Oo W σ s fl σ' k h => by
 replace h := bnd h
 obtain ⟨q, hq, h⟩ := h
 replace h := bnd h
 obtain ⟨v, hv, h⟩ := h
 replace h := bnd h
 obtain ⟨r, hr, h⟩ := h
 obtain ⟨rfl, rfl⟩ := pin h
 obtain ⟨W₁, k₁, hW⟩ := freeze fr k
 obtain ⟨hn, _, _⟩ := slotF_some k.ok.eo hi
 obtain ⟨u, rd, rl⟩ := k₁.ok.rds.val i y q hn (Slot.val_of hq)
 refine wpAny_AugAssign_Name (rd.load k.ok.eo.kind ((hx _ _ _ v k₁.ok hv).ev.use fun b s₁ kp r₁ => (ev_aug (rl.above kp.above) r₁ hr).use fun c s₂ kp₂ r₂ => ?_))
 exact ((k₁.later kp).later kp₂).store hi (sl := .val r) r₂ (fun l e => Slot.dif e rfl) fun s₃ k₃ c₃ => PostS.sub hW (PostS.kp kp (PostS.kp kp₂ (post_store k₃ c₃)))
end
end Rs.Internal
end
section
set_option tactic.hygienic false
open PySem PySem.Calls PyProof.Rows PySem.SeqAt PySem.Builtin.Str
namespace Rs.Internal
section
variable {prog : Program} {w : World} {A : Around} {G : Gl} {φ : Nat → List PV → Option PV} {F : Nat} {hb : Heap} {gl fn : List Str} {mg mb : Str → Option Value} {Oo O O' W W' W₁ wr : List Addr} {cx : Cx} {env : Env} {σ σ' : Store} {s₀ s s₁ s' s₂ : Shared} {p : PV} {pos : Pos} {fl : Fl} {f : Flow}
structure WI (hb : Heap) (Oo W : List Addr) (cx : Cx) (env : Env) (s : Shared) (r : Option (Fl × Store)) (R : Store → Option (Fl × Store)) (W' : List Addr) (σ₁ : Store) (s' : Shared) : Prop where
 ok : SOk hb Oo W' cx env σ₁ s'
 ch : Ch W s s'
 nw : ∀ a ∈ W', a ∈ W ∨ s.heap.get? a = none
 run : R σ₁ = r
theorem while_body {b : List Stmt} {B : Ss} {c : Store → Option Bool} {n : Nat} {σ₁ : Store} (hB : SBs prog w A G φ F hb cx env b B) (k₂ : SOk hb Oo W' cx env σ₁ s₂) (c₂ : Ch W s s₂) (nn : ∀ x ∈ W', x ∈ W ∨ s.heap.get? x = none)
  (he : ((exSs G φ F B σ₁).bind fun x => match x.1 with
   | .nx => whileLoop c (fun σ => exSs G φ F B σ) n x.2
   | .rt p => some (.rt p, x.2)) = some (fl, σ')) {Q : Flow → Shared → Prop} {E : Value → Shared → Prop}
  (next : ∀ W₃ σ₂ s₃, WI hb Oo W cx env s (some (fl, σ')) (whileLoop c (fun σ => exSs G φ F B σ) n) W₃ σ₂ s₃ → Q .next s₃) (ret : ∀ v s₃, PostS hb Oo cx env W s fl σ' (.ret v) s₃ → Q (.ret v) s₃) : wpAny (model prog w) A (execs b env) Q E s₂ := by
 replace he := bnd he
 obtain ⟨⟨f1, σ₂⟩, hb', he⟩ := he
 refine wpAny_mono (hB Oo W' σ₁ s₂ f1 σ₂ k₂ hb') (fun f s₃ q => ?_) fun z1 z2 x => x.elim
 replace q := PostS.seq c₂ nn q
 obtain ⟨W₃, k₃, c₃, n₃, fo⟩ := q
 cases f1 with
 | nx =>
  obtain rfl := (show f = .next from fo)
  exact next W₃ σ₂ s₃ ⟨k₃, c₃, n₃, he⟩
 | rt p =>
  obtain ⟨rfl, rfl⟩ := pin (show some (Fl.rt p, σ₂) = some (fl, σ') from he)
  replace v := (show ∃ v, f = .ret v ∧ Rel Oo s₃.heap p v from fo)
  obtain ⟨v, rfl, r⟩ := v
  exact ret v s₃ ⟨W₃, k₃, c₃, n₃, v, rfl, r⟩
theorem s_while {c : PySem.Expr} {b : List Stmt} {x : X} {B : Ss} (hx : SXa prog w A G φ hb cx env c x) (hB : SBs prog w A G φ F hb cx env b B) : SSa prog w A G φ F hb cx env (.While c b [] pos) (.whl x B) := fun Oo W σ s fl σ' k h => by
 refine wpAny_While (codeAny_whileLoop (fun n s' => ∃ W' σ₁, WI hb Oo W cx env s (some (fl, σ')) (whileLoop (fun σ => (evX G φ x σ).bind PV.truth) (fun σ => exSs G φ F B σ) n) W' σ₁ s') ?_ F ⟨W, σ, k, Ch.refl _ _, fun z1 m => .inl m, h⟩)
 rintro n s' ⟨W', σ₁, wi⟩
 cases n with
 | zero => exact nope wi.run
 | succ n =>
  obtain ⟨t, ht, he⟩ := bnd wi.run
  replace ht := bnd ht
  obtain ⟨p, hp, ht⟩ := ht
  refine ((hx _ _ _ p wi.ok.ok hp).tr t ht).use fun s₂ kp => ?_
  cases t with
  | false =>
   obtain ⟨rfl, rfl⟩ := pin (show some (Fl.nx, σ₁) = some (fl, σ') from he)
   exact wpAny_execs_nil ⟨W', wi.ok.later kp, wi.ch.trans kp.ch, wi.nw, rfl⟩
  | true => exact while_body hB (wi.ok.later kp) (wi.ch.trans kp.ch) wi.nw he (fun W₃ σ₂ s₃ q => ⟨n, Nat.lt_succ_self _, W₃, σ₂, q⟩) fun v s₃ q => q
theorem Src.walk {src : Src} {l : List PV} {I : Addr} {h : Heap} (hh : A.handled = none) (hat : src.at I h) (hg : src.gives O h l) : ∃ fp P St₀, Walks prog w A I fp [I] l.length P St₀ ∧ St₀ 0 h ∧ (∀ W, src.off W → I ∉ W → ∀ b ∈ fp, b ∉ W) ∧
  (∀ (O : List Addr) (h : Heap) (i : Nat) (v : Value) (p : PV), P i v → l[i]? = some p → src.gives O h l → Rel O h p v) ∧ (∀ i h, St₀ i h → ∃ o T, h.get? I = some o ∧ o.cls = .type T ∧ T ∈ quietIter) ∧ (∀ i h, St₀ i h → ∀ b ∈ fp, ∃ o, h.get? b = some o) := by
 cases src with
 | lst ax vs =>
  have e : l.length = vs.toArray.size := by rw [RelL.length hg]; simp
  refine ⟨_, _, _, e ▸ Walks.list (prog := prog) (w := w) hh I ax hat.2.2 vs.toArray, ⟨hat.1, hat.2.1.isList⟩, fun W ho hI b hb' => ?_, fun O h i v p hv hp rr => ?_, fun i h st => ?_, fun i h st b hb' => ?_⟩
  ·rcases List.mem_cons.mp hb' with rfl | hb'
   ·exact hI
   ·rw [List.mem_singleton.mp hb']; exact ho
  ·obtain ⟨u, e, r⟩ := RelL.get rr hp
   have : v = u := by simpa [e] using hv.symm
   rw [this]; exact r
  ·obtain ⟨⟨o, a, b, c⟩, _⟩ := st; exact ⟨o, _, a, b, by simp [quietIter]⟩
  ·obtain ⟨⟨o, a, _⟩, ⟨o', a', _⟩⟩ := st
   rcases List.mem_cons.mp hb' with rfl | hb'
   ·exact ⟨o, a⟩
   ·rw [List.mem_singleton.mp hb']; exact ⟨o', a'⟩
 | tup ax vs =>
  have e : l.length = vs.toArray.size := by rw [RelL.length hg]; simp
  refine ⟨_, _, _, e ▸ Walks.tuple (prog := prog) (w := w) hh I ax hat.2.2 vs.toArray, ⟨hat.1, hat.2.1.isTuple⟩, fun W ho hI b hb' => ?_, fun O h i v p hv hp rr => ?_, fun i h st => ?_, fun i h st b hb' => ?_⟩
  ·rcases List.mem_cons.mp hb' with rfl | hb'
   ·exact hI
   ·rw [List.mem_singleton.mp hb']; exact ho
  ·obtain ⟨u, e, r⟩ := RelL.get rr hp
   have : v = u := by simpa [e] using hv.symm
   rw [this]; exact r
  ·obtain ⟨⟨o, a, b, c⟩, _⟩ := st; exact ⟨o, _, a, b, by simp [quietIter]⟩
  ·obtain ⟨⟨o, a, _⟩, ⟨o', a', _⟩⟩ := st
   rcases List.mem_cons.mp hb' with rfl | hb'
   ·exact ⟨o, a⟩
   ·rw [List.mem_singleton.mp hb']; exact ⟨o', a'⟩
 | rng lo st n =>
  have hg' : l = (List.range n).map fun (k : Nat) => PV.int (lo + st * k) := hg
  have hat' : IsRangeIter h I lo n st := hat
  have e : l.length = n := by rw [hg']; simp
  refine ⟨_, _, _, e ▸ Walks.range (prog := prog) (w := w) hh I lo st n, by rw [e]; simpa using hat', fun W z1 hI b hb' => by rw [List.mem_singleton.mp hb']; exact hI, fun O h i v p hv hp z1 => ?_, fun i h st => ⟨_, _, st, rfl, by simp [quietIter]⟩, fun i h st b hb' => by rw [List.mem_singleton.mp hb']; exact ⟨_, st⟩⟩
  obtain ⟨t, rfl⟩ := hv
  rw [hg', List.getElem?_map] at hp
  by_cases hi : i < n
  ·rw [List.getElem?_range hi] at hp
   obtain rfl := oi hp
   rw [Int.mul_comm]; exact rel_int _ _ _
  ·rw [List.getElem?_eq_none (by simpa using hi)] at hp; exact nope hp
 | asc x t =>
  have hg' : l = x.cps.toList.map fun c => .str [c] := hg
  have e : l.length = x.cps.size := by rw [hg']; simp
  refine ⟨_, _, _, e ▸ Walks.strAscii (prog := prog) (w := w) hh I x t, hat, fun W z1 hI b hb' => by rw [List.mem_singleton.mp hb']; exact hI, fun O h i v p hv hp z1 => signs_rel hv (by rwa [hg'] at hp), fun i h st => ?_, fun i h st b hb' => ?_⟩
  ·obtain ⟨o, a, b, c⟩ := st; exact ⟨o, _, a, b, by simp [quietIter]⟩
  ·obtain ⟨o, a, _⟩ := st; rw [List.mem_singleton.mp hb']; exact ⟨o, a⟩
 | wid x t =>
  have hg' : l = x.cps.toList.map fun c => .str [c] := hg
  have e : l.length = x.cps.size := by rw [hg']; simp
  refine ⟨_, _, _, e ▸ Walks.strWide (prog := prog) (w := w) hh I x t, hat, fun W z1 hI b hb' => by rw [List.mem_singleton.mp hb']; exact hI, fun O h i v p hv hp z1 => signs_rel hv (by rwa [hg'] at hp), fun i h st => ?_, fun i h st b hb' => ?_⟩
  ·obtain ⟨o, a, b, c⟩ := st; exact ⟨o, _, a, b, by simp [quietIter]⟩
  ·obtain ⟨o, a, _⟩ := st; rw [List.mem_singleton.mp hb']; exact ⟨o, a⟩
theorem relL_post {l : List PV} {vs : List Value} (c : Ch W s s') (n : ∀ a ∈ W', a ∈ W ∨ s.heap.get? a = none) (h : RelL (W ++ Oo) s.heap l vs) : RelL (W' ++ Oo) s'.heap l vs := by
 have h1 : RelL (W ++ (W' ++ Oo)) s.heap l vs := RelL.wide (fun a m => by
  simp only [List.mem_append] at m ⊢
  rcases m with m | m | m
  ·exact .inl (.inl m)
  ·exact (n a m).imp_left .inl
  ·exact .inl (.inr m)) _ _ h
 exact RelL.mono (fun a m => List.mem_append_right _ m) _ _ (h1.agree (c.agree.mono fun a m => List.mem_append_left _ m))
theorem gives_post {src : Src} {l : List PV} (c : Ch W s s') (n : ∀ a ∈ W', a ∈ W ∨ s.heap.get? a = none) (h : src.gives (W ++ Oo) s.heap l) : src.gives (W' ++ Oo) s'.heap l := by
 cases src with
 | lst ax vs => exact relL_post c n h
 | tup ax vs => exact relL_post c n h
 | _ => exact h
theorem gives_agree {src : Src} {l : List PV} {h h' : Heap} (k : Agree O h h') (x : src.gives O h l) : src.gives O h' l := by
 cases src with
 | lst ax vs => exact RelL.agree k _ _ x
 | tup ax vs => exact RelL.agree k _ _ x
 | _ => exact x
end
end Rs.Internal
end
section
set_option tactic.hygienic false
open PySem PySem.Calls PyProof.Rows PySem.SeqAt PySem.Builtin.Str
namespace Rs.Internal
section
variable {prog : Program} {w : World} {A : Around} {G : Gl} {φ : Nat → List PV → Option PV} {F : Nat} {hb : Heap} {gl fn : List Str} {mg mb : Str → Option Value} {Oo O O' W W' W₁ wr : List Addr} {cx : Cx} {env : Env} {σ σ' : Store} {s₀ s s₁ s' s₂ : Shared} {p : PV} {pos : Pos} {fl : Fl} {f : Flow}
theorem SOk.setS1 {x : Str} {np : Pos} {i : Nat} {v : Value} {Q : Unit → Shared → Prop} {E : Value → Shared → Prop} (k : SOk hb Oo W cx env σ s) (hx : slotF cx x = some i) (hv : Rel (W ++ Oo) s.heap p v)
  (h : ∀ s', SOk hb Oo W cx env (setS σ i p) s' → Ch W s s' → Q () s') : wpAny (model prog w) A (assign (.Name x np) env v) Q E s :=
 wpAny_assign_Name (k.store hx (sl := .val p) hv (fun l e => Slot.dif e rfl) h)
theorem SOk.stores {E : Value → Shared → Prop} : ∀ {ns : List (Str × Pos)} {is : List Nat} {ps : List PV} {vs : List Value} {σ : Store} {s : Shared} {Q : Unit → Shared → Prop}, SOk hb Oo W cx env σ s → ns.mapM (fun n => slotF cx n.1) = some is → is.length = ps.length → RelL (W ++ Oo) s.heap ps vs →
  (∀ s', SOk hb Oo W cx env (setAll σ (is.zip ps)) s' → Ch W s s' → Q () s') → wpAny (model prog w) A (assignInOrder (ns.map fun n => assign (nameOf n) env) vs) Q E s
 | [], is, ps, vs, σ, s, Q, k, hi, hl, hv, h => by
  simp only [List.mapM_nil, Option.pure_def, Option.some.injEq] at hi
  subst hi
  obtain rfl : ps = [] := List.length_eq_zero_iff.mp (by simpa using hl.symm)
  obtain rfl := (show _ = [] from hv)
  exact assignInOrder_nil (h s k (Ch.refl _ _))
 | n :: ns, is, ps, vs, σ, s, Q, k, hi, hl, hv, h => by
  rw [List.mapM_cons] at hi
  simp only [Option.bind_eq_bind, Option.bind_eq_some_iff, Option.pure_def, Option.some.injEq] at hi
  refine cps fun PP kk => ?_
  obtain ⟨i, hi1, is', hi2, ee1⟩ := hi
  refine kk ?_
  clear kk PP
  subst ee1
  cases ps with
  | nil => simp at hl
  | cons p ps =>
   refine cps fun PP kk => ?_
   obtain ⟨v, r', ee2, hv1, hv2⟩ := hv
   refine kk ?_
   clear kk PP
   subst ee2
   refine assignInOrder_cons (k.setS1 hi1 hv1 fun s₁ k₁ c₁ => ?_)
   exact SOk.stores k₁ hi2 (by simpa using hl) (hv2.agree (c₁.agree.mono fun a m => List.mem_append_left _ m)) fun s₂ k₂ c₂ => h s₂ k₂ (c₁.trans c₂)
theorem s_tgt {t : PySem.Expr} {one : Bool} {tg : List Nat} {v : Value} {Q : Unit → Shared → Prop} {E : Value → Shared → Prop} (hh : A.handled = none) (k : SOk hb Oo W cx env σ s) (ht : tgtOf cx t = some (one, tg)) (hb' : bindTg one tg p σ = some σ')
  (hv : Rel (W ++ Oo) s.heap p v) (h : ∀ s', SOk hb Oo W cx env σ' s' → Ch W s s' → Q () s') : wpAny (model prog w) A (assign t env v) Q E s := by
 cases t with
 | Name x np =>
  replace ht := mpd ht
  obtain ⟨i, hi, ht⟩ := ht
  cases ht
  obtain rfl := Option.some.inj hb'
  exact k.setS1 hi hv h
 | Tuple es z1 z2 =>
  replace ht := mpd ht
  obtain ⟨is, hi, ht⟩ := ht
  cases ht
  replace hi := bnd hi
  obtain ⟨xs, hx, hi⟩ := hi
  obtain ⟨ns, rfl, rfl⟩ := allNames_eq hx
  rw [List.mapM_map] at hi
  replace hb' := bnd hb'
  obtain ⟨ps, hps, hb'⟩ := hb'
  replace hb' := itp hb'
  obtain ⟨hl, hb'⟩ := hb'
  rw [PV.tup_of hps] at hv
  obtain rfl := Option.some.inj hb'
  refine cps fun PP kk => ?_
  obtain ⟨a, vs, ee1, ha, ht, hr⟩ := hv
  refine kk ?_
  clear kk PP
  subst ee1
  have hml := mapM_len hi
  refine wpAny_assign_Tuple hh ht.isTuple ?_ ?_ fun h₁ he₁ => ?_
  ·rw [assignEach_names]; simp [← hr.length, ← hl, hml]
  ·rw [assignEach_names, List.findIdx?_eq_none_iff]; simp
  ·rw [assignEach_names, List.map_map]
   have ab : Above s.heap h₁ := fun b o e => he₁ b o (Nat.ne_of_lt (Heap.lt_size e)) e
   have kp : Kp s { s with heap := h₁ } := ⟨⟨_, _, rfl, ab⟩, Nat.le_refl _⟩
   exact SOk.stores (k.later kp) hi hl (by simpa using hr.above ab) fun s' k' c => h s' k' (kp.ch.trans c)
 | _ => exact nope ht
structure FI (hb : Heap) (Oo W₀ : List Addr) (cx : Cx) (env : Env) (s₁ : Shared) (I : Addr) (St₀ : Nat → Heap → Prop) (fp : List Addr) (src : Src) (l : List PV) (R : Nat → Store → Prop) (W' : List Addr) (σ₁ : Store) (i : Nat) (s' : Shared) : Prop where
 le : i ≤ l.length
 ok : SOk hb ([I] ++ Oo) W' cx env σ₁ s'
 ch : Ch W₀ s₁ s'
 nw : ∀ a ∈ W', a ∈ W₀ ∨ s₁.heap.get? a = none
 st : St₀ i s'.heap
 fp : ∀ a ∈ fp, a ∉ W'
 gv : src.gives (W' ++ ([I] ++ Oo)) s'.heap l
 run : R i σ₁
section
variable {I : Addr} {St₀ : Nat → Heap → Prop} {fp : List Addr} {src : Src} {l : List PV} {P : Nat → Value → Prop} {one : Bool} {tg : List Nat} {B : Ss} {b : List Stmt} {t : PySem.Expr} {i : Nat} {σ₁ : Store}
theorem FI.chI (c : Ch [I] s s') (e : s₁.heap.get? I = none) (c0 : Ch W s₁ s) : Ch W s₁ s' := c0.seq c fun x m => by rw [List.mem_singleton.mp m]; exact .inr e
theorem for_body (hh : A.handled = none) (n0 : s₁.heap.get? I = none) (hbI : hb.get? I = none) (hIO : I ∉ Oo) (hw : ∀ i h h', St₀ i h → (∀ b ∈ fp, ∀ o, h.get? b = some o → h'.get? b = some o) → St₀ i h') (hcl : ∀ i h, St₀ i h → ∃ o T, h.get? I = some o ∧ o.cls = .type T ∧ T ∈ quietIter) (hstand : ∀ i h, St₀ i h → ∀ b ∈ fp, ∃ o, h.get? b = some o)
  (hrel : ∀ (O : List Addr) (h : Heap) (i : Nat) (v : Value) (p : PV), P i v → l[i]? = some p → src.gives O h l → Rel O h p v) (ht : tgtOf cx t = some (one, tg)) (hB : SBs prog w A G φ F hb cx env b B)
  (f : FI hb Oo W cx env s₁ I St₀ fp src l (fun i σ₁ => forLoop one tg (fun σ => exSs G φ F B σ) (l.drop i) σ₁ = some (fl, σ')) W' σ₁ i s) (hlt : i < l.length) {v : Value} (hP : P i v) (ca : Ch [I] s s') (hst' : St₀ (i + 1) s'.heap) {Q : Flow → Shared → Prop} {E E' : Value → Shared → Prop}
  (next : ∀ W'' σ₃ s_c, FI hb Oo W cx env s₁ I St₀ fp src l (fun i σ₁ => forLoop one tg (fun σ => exSs G φ F B σ) (l.drop i) σ₁ = some (fl, σ')) W'' σ₃ (i + 1) s_c → Q .next s_c) (ret : ∀ v s_c, PostS hb Oo cx env W s₁ fl σ' (.ret v) s_c → Q (.ret v) s_c) :
  wpAny (model prog w) A (assign t env v) (fun z1 s₂ => wpAny (model prog w) A (execs b env) Q E s₂) E' s' := by
 have he := f.run
 rw [List.drop_eq_getElem_cons hlt] at he
 obtain ⟨σ₂, hbind, he⟩ := bnd he
 refine cps fun PP kk => ?_
 obtain ⟨⟨f1, σ₃⟩, hbody, he⟩ := bnd he
 refine kk ?_
 clear kk PP
 have alI : Alive [I] s'.heap := fun a m => by rw [List.mem_singleton.mp m]; obtain ⟨o', _, e', _⟩ := hcl _ _ hst'; exact ⟨o', e'⟩
 have hwb : ∀ a ∈ [I], hb.get? a = none := fun a m => by rw [List.mem_singleton.mp m]; exact hbI
 have ka := f.ok.touch ca hwb alI
 have ga : src.gives (W' ++ ([I] ++ Oo)) s'.heap l := gives_agree (ca.agree.mono fun a m => List.mem_append_right _ (List.mem_append_left _ m)) f.gv
 refine s_tgt hh ka ht hbind (hrel _ _ i v _ hP (List.getElem?_eq_getElem hlt) ga) fun s_b kb cb => ?_
 have gb : src.gives (W' ++ ([I] ++ Oo)) s_b.heap l := gives_agree (cb.agree.mono fun a m => List.mem_append_left _ m) ga
 have stb : St₀ (i + 1) s_b.heap := hw _ _ _ hst' fun b hb' o e => cb.agree b o (f.fp b hb') e
 have c0b : Ch W s₁ s_b := (FI.chI ca n0 f.ch).seq cb f.nw
 refine wpAny_mono (hB ([I] ++ Oo) W' σ₂ s_b f1 σ₃ kb hbody) (fun fl' s_c q => ?_) fun z1 z2 x => x.elim
 refine cps fun PP kk => ?_
 obtain ⟨W'', kc, cc, nc, fo⟩ := q
 refine kk ?_
 clear kk PP
 have n'' : ∀ a ∈ W'', a ∈ W ∨ s₁.heap.get? a = none := fun a m => by
  rcases nc a m with q | q
  ·exact f.nw a q
  ·by_cases hx : a ∈ W
   ·exact .inl hx
   ·right
    cases e' : s₁.heap.get? a with
    | none => rfl
    | some o' => rw [c0b.keeps hx e'] at q; cases q
 have c0c : Ch W s₁ s_c := c0b.seq cc f.nw
 cases f1 with
 | nx =>
  obtain rfl := (show fl' = .next from fo)
  refine next W'' σ₃ s_c ⟨hlt, kc, c0c, n'', hw _ _ _ stb fun b hb' o e => cc.agree b o (f.fp b hb') e, fun a m q => ?_, gives_post cc nc gb, he⟩
  rcases nc a q with q | q
  ·exact f.fp a m q
  ·obtain ⟨o', e'⟩ := hstand _ _ stb a m; rw [q] at e'; exact nope e'
 | rt p' =>
  obtain ⟨v', rfl, rr⟩ := (show ∃ v, fl' = .ret v ∧ Rel ([I] ++ Oo) s_c.heap p' v from fo)
  cases (show some (Fl.rt p', σ₃) = some (fl, σ') from he)
  have hIOo : ∀ a ∈ [I], a ∉ Oo := fun a m q => by
   rw [List.mem_singleton.mp m] at q
   exact hIO q
  exact ret v' s_c ⟨W'', kc.forget (Ch.refl _ _) hwb hIOo, c0c, n'', v', rfl, Rel.mono (fun a m => List.mem_append_right _ m) _ _ rr⟩
theorem for_loop (hh : A.handled = none) {R : Result → Shared → Prop} (hR : ∀ f s', PostS hb Oo cx env W s₁ fl σ' f s' → R (.ok f) s') (k₁ : SOk hb Oo W cx env σ s₁) (n0 : s₁.heap.get? I = none) (kp₂ : Kp s₁ s₂) (hat : src.at I s₂.heap) (hg : src.gives (W ++ Oo) s₁.heap l)
  (hoff : ∀ W', (∀ a ∈ W', s₁.heap.get? a = none ∨ a ∈ W ++ Oo) → src.off W') (ht : tgtOf cx t = some (one, tg)) (hB : SBs prog w A G φ F hb cx env b B) (h : forLoop one tg (fun σ => exSs G φ F B σ) l σ = some (fl, σ')) : codeAny (model prog w) A (.forLoop t (.ref I) b [] env) R s₂ := by
 have hg0 : src.gives (W ++ ([I] ++ Oo)) s₁.heap l := Src.wide (fun a m => by
  simp only [List.mem_append, List.mem_singleton] at m
  rcases m with m | m | m
  ·exact .inl (List.mem_append_left _ m)
  ·rw [m]; exact .inr n0
  ·exact .inl (List.mem_append_right _ m)) hg
 have hgives := hg0.above kp₂.above
 refine cps fun PP kk => ?_
 obtain ⟨fp, P, St₀, Wk, hst, hfp, hrel, hcl, hstand⟩ := Src.walk (prog := prog) (w := w) hh hat hgives
 refine kk ?_
 clear kk PP
 have hIst : ∃ o', s₂.heap.get? I = some o' := let ⟨o', _, e, _⟩ := hcl _ _ hst; ⟨o', e⟩
 have kh : SOk hb ([I] ++ Oo) W cx env σ s₂ := k₁.hide kp₂ (fun a m => by rw [List.mem_singleton.mp m]; exact n0) (fun a m => by rw [List.mem_singleton.mp m]; exact hIst)
 have hbI : hb.get? I = none := off_base k₁.ok.base n0
 have hIO : I ∉ Oo := fun q => by obtain ⟨o', e⟩ := k₁.ok.al _ (List.mem_append_right _ q); rw [n0] at e; exact nope e
 have hfpW : ∀ a ∈ fp, a ∉ W := hfp W (hoff W fun a m => .inr (List.mem_append_left _ m)) (fun m => kh.sep _ m (by simp))
 refine codeAny_forLoop_any (fun n s' => ∃ W' σ₁ i, n = l.length + 1 - i ∧ FI hb Oo W cx env s₁ I St₀ fp src l (fun i σ₁ => forLoop one tg (fun σ => exSs G φ F B σ) (l.drop i) σ₁ = some (fl, σ')) W' σ₁ i s') ?_ (l.length + 1) ⟨W, _, 0, rfl, Nat.zero_le _, kh, kp₂.ch, fun z1 m => .inl m, hst, hfpW, hgives, h⟩
 clear hat hg hoff hg0 hgives kh hfpW hst hfp h hIst k₁ kp₂
 rintro n s' ⟨W', σ₁, i, rfl, f⟩
 rcases Nat.lt_or_eq_of_le f.le with hlt | rfl
 ·refine wpAny_mono (wpAny_toks_of (Nat.le_refl s'.toks) (Wk.item i s' (fun r s'' => ∃ v, r = some v ∧ P i v ∧ St₀ (i + 1) s''.heap ∧ ∃ h' tk, s'' = { s' with heap := h', toks := tk } ∧ Agree [I] s'.heap h') (fun z1 z2 => False) hlt f.st
   fun v h' tk hPv hst' hk => ⟨v, rfl, hPv, hst', h', tk, rfl, hk⟩)) (fun r s_a q => ?_) fun z1 z2 q => q.2.elim
  refine cps fun PP kk => ?_
  obtain ⟨htk', v, ee1, hPv, hst', h', tk', e, hk⟩ := q
  refine kk ?_
  clear kk PP
  subst ee1
  refine cps fun PP kk => ?_
  obtain ⟨oI, TI, e1, e2, e3⟩ := hcl _ _ hst'
  refine kk ?_
  clear kk PP
  exact go_quiet e1 e2 e3 (for_body hh n0 hbI hIO Wk.frame hcl hstand hrel ht hB f hlt hPv ⟨⟨h', tk', e, hk⟩, htk'⟩ hst' (fun W'' σ₃ s_c f' => ⟨l.length + 1 - (i + 1), by lia, W'', σ₃, i + 1, rfl, f'⟩) fun v s_c q => hR _ _ q)
 ·have he := f.run
  rw [List.drop_length] at he
  cases (show some (Fl.nx, σ₁) = some (fl, σ') from he)
  refine wpAny_mono (wpAny_toks_of (Nat.le_refl s'.toks) (Wk.done s' (fun r s'' => r = none ∧ ∃ h' tk, s'' = { s' with heap := h', toks := tk } ∧ Agree [I] s'.heap h') (fun z1 z2 => False) f.st
   fun h' tk hk => ⟨rfl, h', tk, rfl, hk⟩)) (fun r s_a q => ?_) fun z1 z2 q => q.2.elim
  refine cps fun PP kk => ?_
  obtain ⟨htk', ee2, h', tk', e, hk⟩ := q
  refine kk ?_
  clear kk PP
  subst ee2
  have ca : Ch [I] s' s_a := ⟨⟨h', tk', e, hk⟩, htk'⟩
  exact wpAny_execs_nil (hR _ _ ⟨W', f.ok.forget ca (fun a m => by rw [List.mem_singleton.mp m]; exact hbI) (fun a m q => by rw [List.mem_singleton.mp m] at q; exact hIO q), FI.chI ca n0 f.ch, f.nw, rfl⟩)
end
theorem s_for {t it : PySem.Expr} {b : List Stmt} {fr : List Nat} {x : X} {B : Ss} {q : Bool × List Nat} (hh : A.handled = none) (hx : SXa prog w A G φ hb cx env it x) (hset : ∀ v, foldedSetIterable it env v = pure v) (ht : tgtOf cx t = some q) (hB : SBs prog w A G φ F hb cx env b B) :
  SSa prog w A G φ F hb cx env (.For t it b [] pos) (.forS fr q.2 q.1 (.val x) B) := fun Oo W σ s fl σ' k h => by
 replace h := bnd h
 obtain ⟨l, hl, h⟩ := h
 replace hl := bnd hl
 obtain ⟨p, hp, hl⟩ := hl
 replace hl := bnd hl
 obtain ⟨l', hl', hl⟩ := hl
 replace hl := its hl
 obtain ⟨_, hl⟩ := hl
 obtain rfl := oi hl
 obtain ⟨W₀, k₀, hW⟩ := freeze fr k
 refine wpAny_For ((hx _ _ _ p k₀.ok hp).ev.use fun v s₁ kp r₁ => iter_made2 r₁ hl' fun src o tk hso htk hat hg hoff => ?_) hset
 exact for_loop hh (fun f s' q => PostS.sub hW (PostS.kp kp q)) (k₀.later kp) (Heap.get?_none_of_le (Nat.le_refl _)) ⟨⟨_, _, rfl, Above.push _ _⟩, htk⟩ hat hg hoff ht hB h
end
end Rs.Internal
end
section
set_option tactic.hygienic false
open PySem PySem.Calls PyProof.Rows PySem.SeqAt PySem.Builtin.Str
namespace Rs.Internal
section
variable {prog : Program} {w : World} {A : Around} {G : Gl} {φ : Nat → List PV → Option PV} {F : Nat} {hb : Heap} {gl fn : List Str} {mg mb : Str → Option Value} {Oo O O' W W' W₁ wr : List Addr} {cx : Cx} {env : Env} {σ σ' : Store} {s₀ s s₁ s' s₂ : Shared} {p : PV} {pos : Pos} {fl : Fl} {f : Flow}
theorem a_name (hh : A.handled = none) {n : Nat} (sn : ∀ n, Snd prog w A G φ hb gl fn n) (hgl : cx.gl = gl) (hfn : cx.fn = fn) {y : Str} {np : Pos} {value : PySem.Expr} {x : X} {i : Nat} (hc : cX n cx value = some x) (hi : slotF cx y = some i)
  (k : SOk hb Oo W cx env σ s) (hv : evX G φ x σ = some p) : wpAny (model prog w) A (exec (.Assign [.Name y np] value pos) env) (PostS hb Oo cx env W s .nx (setS σ i p)) (fun z1 z2 => False) s := by
 have plain : swapsWith value (some (.Name y np)) pos.line env = pure false → wpAny (model prog w) A (exec (.Assign [.Name y np] value pos) env) (PostS hb Oo cx env W s .nx (setS σ i p)) (fun z1 z2 => False) s := fun hs =>
  wpAny_Assign_Name ((((sn n).x cx env value x hgl hfn hc _ _ _ p k.ok hv).ev).use fun v s₁ kp r₁ => (k.later kp).store hi (sl := .val p) r₁ (fun l e => Slot.dif e rfl) fun s₂ k₂ c₂ => PostS.kp kp (post_store k₂ c₂)) hs
 cases value with
 | ListComp elt gens sc cp =>
  cases n with
  | zero => exact nope hc
  | succ n =>
   cases hb' : (env.blockKind == .function && env.kindOf y == some .local && np.line == (PySem.Expr.ListComp elt gens sc cp).pos.line && !(sc.names.any fun (n, k) => n == y && (k == .local || k == .cell))) with
   | false =>
    refine plain ?_
    show (pure _ : Sem Bool) = _
    exact congrArg pure hb'
   | true =>
    have hs : swapsWith (.ListComp elt gens sc cp) (some (.Name y np)) pos.line env = pure true := by
     show (pure _ : Sem Bool) = _
     exact congrArg pure hb'
    refine cps fun PP kk => ?_
    obtain ⟨t, it, ifs, gs, caps, one, tg, j, fs, r, ee1, so, hcap, ee2, P, hit⟩ := cX_comp (sn n) hgl hfn hc
    refine kk ?_
    clear kk PP
    subst ee1
    subst ee2
    obtain ⟨out, rfl⟩ := comp_lst hv
    rw [exec_Assign_Name_used _ _ _ _ hs]
    refine wpAny_bind (wpAny_standAt (wpAny_bind ?_))
    show wpAny _ A (do let _ ← comprehension (.ListComp elt (⟨t, it, ifs, 0⟩ :: gs) sc cp) sc env it.pos (newList []) false (eval it env) (some (assign (.Name y np) env))) _ _ s
    refine wpAny_bind (wpAny_mono (comp_run hh so hcap P (hit env).1 (hit env).2 k.ok hv it.pos (use := some (assign (.Name y np) env)) (Q := fun z1 s' => PostS hb Oo cx env W s .nx (setS σ i (.lst out)) .next s') (E := fun z1 z2 => False) ?_) (fun z1 s' hq => wpAny_pure (wpAny_pure hq)) fun z1 z2 e => e)
    intro wr D C s' vs hwr kp hns hl hr hCD hD hC
    obtain ⟨m, hns⟩ := hns
    have hCa : Alive [C] s'.heap := fun a q => by rw [List.mem_singleton.mp q]; obtain ⟨o, _, _, e, _⟩ := hns; exact ⟨o, e⟩
    have k' : SOk hb ([C] ++ Oo) W cx env σ s' := k.hide kp (fun a q => by rw [List.mem_singleton.mp q]; exact hC) hCa
    have notO : ∀ a ∈ W ++ Oo, a ≠ D ∧ a ≠ C := fun a q => by
     obtain ⟨o, e⟩ := k.ok.al a q
     exact ⟨fun e' => (by rw [e', hD] at e; exact nope e), fun e' => (by rw [e', hC] at e; exact nope e)⟩
    have hsub : ∀ a ∈ W ++ ([C] ++ Oo), a ∈ C :: D :: (wr ++ (W ++ Oo)) := fun a q => by
     simp only [List.mem_append, List.mem_cons, List.not_mem_nil, or_false] at q ⊢
     rcases q with q | q | q
     ·exact .inr (.inr (.inr (.inl q)))
     ·exact .inl q
     ·exact .inr (.inr (.inr (.inr q)))
    show wpAny (model prog w) A (assign (.Name y np) env (.ref D)) _ _ s'
    refine k'.setS1 hi (p := .lst out) ⟨D, vs, rfl, fun q => ?_, hl, RelL.mono hsub _ _ hr⟩ fun s₂ k₂ c₂ => ?_
    ·simp only [List.mem_append, List.mem_cons, List.not_mem_nil, or_false] at q
     rcases q with q | q | q
     ·exact (notO D (List.mem_append_left _ q)).1 rfl
     ·exact hCD q.symm
     ·exact (notO D (List.mem_append_right _ q)).1 rfl
    ·have hCW : C ∉ W := fun q => (notO C (List.mem_append_left _ q)).2 rfl
     refine ⟨m, hns.at' fun o e => c₂.keeps hCW e, fun h' hs' => ?_⟩
     have c₃ : Ch [C] s₂ { s₂ with heap := h' } := ⟨⟨h', s₂.toks, rfl, fun b o hb e => hs'.extBut b o (by simpa using hb) e⟩, Nat.le_refl _⟩
     have hCh : hb.get? C = none := off_base k.ok.base hC
     refine ⟨W, k₂.forget c₃ (fun a q => by rw [List.mem_singleton.mp q]; exact hCh) (fun a q q' => ?_), ?_, fun z1 q => .inl q, rfl⟩
     ·rw [List.mem_singleton.mp q] at q'; exact (notO C (List.mem_append_right _ q')).2 rfl
     ·exact (kp.ch.trans c₂).seq c₃ fun a q => by rw [List.mem_singleton.mp q]; exact .inr hC
 | SetComp z1 z2 z3 z4 => cases n <;> exact nope hc
 | DictComp z1 z2 z3 z4 z5 => cases n <;> exact nope hc
 | _ => exact plain rfl
theorem s_asg (hh : A.handled = none) {n : Nat} (sn : ∀ n, Snd prog w A G φ hb gl fn n) (hgl : cx.gl = gl) (hfn : cx.fn = fn) {y : Str} {np : Pos} {value : PySem.Expr} {x : X} {i : Nat} {fr : List Nat} (hc : cX n cx value = some x) (hi : slotF cx y = some i) :
  SSa prog w A G φ F hb cx env (.Assign [.Name y np] value pos) (.asg fr i x) := fun Oo W σ s fl σ' k h => by
 replace h := bnd h
 obtain ⟨p, hp, h⟩ := h
 obtain ⟨rfl, rfl⟩ := pin h
 obtain ⟨W₁, k₁, hW⟩ := freeze fr k
 exact wpAny_mono (a_name hh sn hgl hfn hc hi k₁ hp) (fun f s' q => PostS.sub hW q) fun z1 z2 x => x
theorem s_asg2 {y z : Str} {np zp : Pos} {value : PySem.Expr} {x : X} {i j : Nat} {fr : List Nat} (hx : SXa prog w A G φ hb cx env value x) (hi : slotF cx y = some i) (hj : slotF cx z = some j) :
  SSa prog w A G φ F hb cx env (.Assign [.Name y np, .Name z zp] value pos) (.asg2 fr i j x) := fun Oo W σ s fl σ' k h => by
 replace h := bnd h
 obtain ⟨p, hp, h⟩ := h
 obtain ⟨rfl, rfl⟩ := pin h
 obtain ⟨W₁, k₁, hW⟩ := freeze fr k
 refine wpAny_Assign_two ((hx _ _ _ p k₁.ok hp).ev.use fun v s₁ kp r₁ => (k₁.later kp).setS1 hi r₁ fun s₂ k₂ c₂ => k₂.setS1 hj (r₁.agree (c₂.agree.mono fun a m => List.mem_append_left _ m)) fun s₃ k₃ c₃ => ?_)
 exact PostS.sub hW (PostS.kp kp ⟨W₁, k₃, c₂.trans c₃, fun z1 m => .inl m, rfl⟩)
end
end Rs.Internal
end
section
set_option tactic.hygienic false
open PySem PySem.Calls PyProof.Rows PySem.SeqAt PySem.Builtin.Str
namespace Rs.Internal
section
variable {prog : Program} {w : World} {A : Around} {s : Shared}
theorem setItem_plain {E : Value → Shared → Prop} {l : Addr} {items : Array Value} {k : Int} {t : Tok} {v : Value} {Q : Unit → Shared → Prop} (hl : s.heap.PlainList l items) (h0 : 0 ≤ k) (hfit : k < 2 ^ 63) (hn : k < items.size)
  (hQ : ∀ h', h'.PlainList l (items.setIfInBounds k.toNat v) → Heap.SameBut l s.heap h' → Q () { s with heap := h' }) : wpAny (model prog w) A (setItem (.ref l) (.int k t) v) Q E s := by
 obtain ⟨n, ho⟩ := hl
 have hl' : s.heap.IsList l items := ⟨_, ho, rfl, n, rfl⟩
 unfold setItem
 try with_reducible refine wpAny_holding ?_
 first | refine wpAny_bind (wpAny_pure ?_) | skip
 refine wpAny_bind (wpAny_sequenceKey hl'.typeIs (by decide) ?_)
 refine wpAny_bind (wpAny_callSpecial?_slot (name := Str.ofString "__setitem__") hl'.typeIs slot_list_setitem
  (wpAny_call_entry slot_list_setitem hl'.typeIs entry_list_setitem ?_ (args_list_setitem _ _ _)))
 show wpAny _ _ (Builtin.List.listSubscript? (.int k t) >>= _) _ _ s
 refine wpAny_bind (wpAny_listSubscript_int (fitsIndex_of h0 hfit) ?_)
 clear hfit
 obtain ⟨j, rfl⟩ := Int.eq_ofNat_of_zero_le h0
 have hj : j < items.size := by lia
 have hx' : items[j]? = some items[j] := Array.getElem?_eq_getElem hj
 show wpAny _ _ ((seqItemAt l j >>= fun r => pure (r.map (j, ·))) >>= _) _ _ s
 refine wpAny_bind (wpAny_bind (wpAny_seqItemAt ho rfl (wpAny_pure ?_)))
 rw [hx']
 show wpAny _ _ (setSeqItemAt l j v >>= _) _ _ s
 have hfin : (s.heap.update l (Obj.mapSeq (·.setIfInBounds j v))).PlainList l (items.setIfInBounds j v) := ⟨_, IsL.update (n := n) ho _⟩
 refine wpAny_bind (wpAny_setSeqItemAt ho rfl ?_)
 first
  | exact wpAny_bind (wpAny_pure (wpAny_pure ⟨.none, rfl, wpAny_pure (hQ _ hfin (Heap.SameBut.update ..))⟩))
  | exact wpAny_pure ⟨.none, rfl, wpAny_pure (hQ _ hfin (Heap.SameBut.update ..))⟩
end
section
variable {prog : Program} {w : World} {A : Around} {G : Gl} {φ : Nat → List PV → Option PV} {F : Nat} {hb : Heap} {gl fn : List Str} {mg mb : Str → Option Value} {Oo O O' W W' W₁ wr : List Addr} {cx : Cx} {env : Env} {σ σ' : Store} {s₀ s s₁ s' s₂ : Shared} {p : PV} {pos : Pos} {fl : Fl} {f : Flow}
theorem SOk.change {i : Nat} {y : Str} {l l' : List PV} {a : Addr} {vs' : List Value} {h' : Heap} (k : SOk hb Oo W cx env σ s) (hn : cx.nm[i]? = some y) (hl : getS σ i = .own l) (hrd : Rd env s.heap y (.ref a)) (hs : Heap.SameBut a s.heap h')
  (il' : IsLst h' a vs') (rl' : RelL (W ++ Oo) s.heap l' vs') (tk : Nat) (htk : s.toks ≤ tk) : SOk hb Oo W cx env (σ.set i (.own l')) { s with heap := h', toks := tk } ∧ Ch W s { s with heap := h', toks := tk } := by
 obtain ⟨f, h1, h2⟩ := k.own
 have hil := own_lt ⟨l, hl⟩
 obtain ⟨hrd', hfW⟩ := h1 i y hn ⟨l, hl⟩
 have hfa : f i = a := by have := hrd'.same hrd; cases this; rfl
 subst hfa
 refine cps fun PP kk => ?_
 obtain ⟨a0, vs0, rd0, ⟨n0, il0⟩, _⟩ := k.ok.rds.own i y l hn hl
 refine kk ?_
 clear kk PP
 have : a0 = f i := by have := rd0.same hrd; cases this; rfl
 subst this
 have ag : Agree W s.heap h' := fun b o hb e => hs.extBut b o (fun q => hb (q ▸ hfW)) e
 have agO : Agree (W ++ Oo) s.heap h' := ag.mono fun b m => List.mem_append_left _ m
 have hloc : env.locals ≠ f i := fun e => by
  refine cps fun PP kk => ?_
  obtain ⟨m, o, es, ep, e1, e2, _⟩ := k.ok.rds.ns
  refine kk ?_
  clear kk PP
  rw [e, il0] at e1; (obtain rfl := oi e1; clear e1); cases e2
 have hcel : ∀ z c, env.cells.lookup z = some c → c ≠ f i := fun z c hc e => by
  refine cps fun PP kk => ?_
  obtain ⟨v, o, e1, e2⟩ := k.ok.rds.cells z c hc
  refine kk ?_
  clear kk PP
  rw [e, il0] at e1; (obtain rfl := oi e1; clear e1); cases e2
 have ag1 : Agree [f i] s.heap h' := fun b o hb e => hs.extBut b o (by simpa using hb) e
 have rd : ∀ z v, Rd env s.heap z v → Rd env h' z v := fun z v r => rd_agree ag1 (by simpa using hloc) (fun c hc => by simpa using hcel z c hc) r
 have hg : ∀ j, j ≠ i → getS (σ.set i (.own l')) j = getS σ j := fun j hj => by rw [getS_set, if_neg (fun q => hj q.1.symm)]
 have hgi : getS (σ.set i (.own l')) i = .own l' := by rw [getS_set, if_pos ⟨rfl, hil⟩]
 have ho : ∀ j, IsOwn (σ.set i (.own l')) j → IsOwn σ j := fun j ⟨l2, e⟩ => by
  by_cases hj : j = i
  ·subst hj; exact ⟨l, hl⟩
  ·exact ⟨l2, by rw [← hg j hj]; exact e⟩
 refine ⟨?_, ⟨⟨h', tk, rfl, ag⟩, htk⟩⟩
 exact {
  ok := {
   eo := k.ok.eo
   fw := k.ok.fw
   rds := {
    len := by rw [List.length_set]; exact k.ok.rds.len
    ns := let ⟨m, e⟩ := k.ok.rds.ns; ⟨m, e.at' fun o q => hs.extBut _ o hloc q⟩
    cells := fun z c hc => let ⟨v, o, e1, e2⟩ := k.ok.rds.cells z c hc; ⟨v, o, hs.extBut _ o (hcel z c hc) e1, e2⟩
    val := fun j z p e1 e2 => by
     have hj : j ≠ i := fun e => by subst e; rw [hgi] at e2; exact Slot.dif e2 rfl
     rw [hg j hj] at e2
     obtain ⟨v, q1, q2⟩ := k.ok.rds.val j z p e1 e2
     exact ⟨v, rd _ _ q1, q2.agree agO⟩
    own := fun j z l2 e1 e2 => by
     by_cases hj : j = i
     ·subst hj
      rw [hgi] at e2; cases e2
      rw [hn] at e1; obtain rfl := oi e1
      exact ⟨f j, vs', rd _ _ hrd, il', rl'.agree agO⟩
     ·rw [hg j hj] at e2
      refine cps fun PP kk => ?_
      obtain ⟨b, us, q1, ⟨n1, q2⟩, q3⟩ := k.ok.rds.own j z l2 e1 e2
      refine kk ?_
      clear kk PP
      have hb : b = f j := by have := q1.same (h1 j z e1 ⟨l2, e2⟩).1; cases this; rfl
      have hne : b ≠ f i := fun e => hj (h2 j i ⟨l2, e2⟩ ⟨l, hl⟩ (hb ▸ e))
      exact ⟨b, us, rd _ _ q1, ⟨n1, hs.extBut _ _ hne q2⟩, q3.agree agO⟩ }
   al := k.ok.al.agree (S := [f i]) ag1 fun b m => by rw [List.mem_singleton.mp m]; obtain ⟨n, e⟩ := il'; exact ⟨_, e⟩
   base := fun b o q => ag b o (fun m => by rw [k.new b m] at q; exact nope q) (k.ok.base b o q)
   tok := Nat.le_trans k.ok.tok htk }
  loc := k.loc
  cel := k.cel
  new := k.new
  sep := k.sep
  nofree := k.nofree
  own := ⟨f, fun j z e o => ⟨rd _ _ (h1 j z e (ho j o)).1, (h1 j z e (ho j o)).2⟩, fun a b c d => h2 a b (ho a c) (ho b d)⟩ }
theorem s_setI {y : Str} {np sp : Pos} {kx value : PySem.Expr} {x q : X} {i : Nat} {fr : List Nat} (hx : SXa prog w A G φ hb cx env value x) (hq : SXa prog w A G φ hb cx env kx q) (hn : cx.nm[i]? = some y) (hsw : swapsWith value (some (.Subscript (.Name y np) kx sp)) pos.line env = pure false) :
  SSa prog w A G φ F hb cx env (.Assign [.Subscript (.Name y np) kx sp] value pos) (.setI fr i q x) := fun Oo W σ s fl σ' k h => by
 replace h := bnd h
 obtain ⟨p, hp, h⟩ := h
 replace h := bnd h
 obtain ⟨l, hl, h⟩ := h
 replace h := bnd h
 obtain ⟨kv, hkv, h⟩ := h
 replace h := bnd h
 obtain ⟨j, hj, h⟩ := h
 replace h := its h
 obtain ⟨hc, h⟩ := h
 obtain ⟨rfl, rfl⟩ := pin h
 rw [PV.int_of hj] at hkv
 obtain ⟨W₁, k₁, hW⟩ := freeze fr k
 replace hl := Slot.own_of hl
 simp only [Bool.and_eq_true, decide_eq_true_eq] at hc
 have h0 := hc.1.1
 have h1 := hc.1.2
 have hf := fitL_iff hc.2
 clear hc
 refine cps fun PP kk => ?_
 obtain ⟨a, vs, rd, il, rl⟩ := k₁.ok.rds.own i y l hn hl
 refine kk ?_
 clear kk PP
 refine wpAny_Assign_Subscript ((hx _ _ _ p k₁.ok hp).ev.use fun v s₁ kp₁ r₁ => wpAny_Name ((rd.above kp₁.above).load k.ok.eo.kind ((hq _ _ _ (.int j) (k₁.later kp₁).ok hkv).ev.use fun u s₂ kp₂ r₂ => ?_)) rd.1) hsw
 obtain ⟨t, rfl⟩ := r₂
 have kp := kp₁.trans kp₂
 have hlen := rl.length
 refine setItem_plain (il.above kp.above).plain h0 (by lia) (by rw [List.size_toArray, ← hlen]; exact h1) fun h' pl sb => ?_
 have il' : IsLst h' a (vs.set j.toNat v) := by obtain ⟨n, e⟩ := pl; exact ⟨n, by rw [e]; simp⟩
 obtain ⟨k₃, c₃⟩ := (k₁.later kp).change hn hl (rd.above kp.above) sb il' (RelL.set (r₁.above kp₂.above) j.toNat (rl.above kp.above)) s₂.toks (Nat.le_refl _)
 exact PostS.sub hW (PostS.kp kp (post_store k₃ c₃))
theorem s_delI {y : Str} {np sp : Pos} {kx : PySem.Expr} {i : Nat} {last : Bool} (hn : cx.nm[i]? = some y) (hkx : (last = false ∧ ∃ kk kp, kx = .Constant (.int 0) kk kp) ∨ (last = true ∧ ∃ kk kp up, kx = .UnaryOp .USub (.Constant (.int 1) kk kp) up)) :
  SSa prog w A G φ F hb cx env (.Delete [.Subscript (.Name y np) kx sp] pos) (.delI i last) := fun Oo W σ s fl σ' k h => by
 replace h := bnd h
 obtain ⟨l, hl, h⟩ := h
 replace hl := Slot.own_of hl
 cases l with
 | nil => exact nope h
 | cons x r =>
  replace h := its h
  obtain ⟨hf, h⟩ := h
  obtain ⟨rfl, rfl⟩ := pin h
  replace hf := fitL_iff hf
  refine cps fun PP kk => ?_
  obtain ⟨a, vs, rd, il, rl⟩ := k.ok.rds.own i y _ hn hl
  refine kk ?_
  clear kk PP
  have hlen := rl.length
  simp only [List.length_cons] at hlen hf
  have fin : ∀ (j : Int) (n : Nat) (t : Tok) (s₁ : Shared), Kp s s₁ → Builtin.List.listFitsIndex j = true → seqIndex? j vs.toArray.size = some n → (if last then (x :: r).dropLast else r) = (x :: r).eraseIdx n →
    wpAny (model prog w) A (delItem (.ref a) (.int j t)) (fun z1 s' => PostS hb Oo cx env W s .nx (σ.set i (.own (if last then (x :: r).dropLast else r))) .next s') (fun z1 z2 => False) s₁ := fun j n t s₁ kp hfit hj he => by
   refine wpAny_delItem_plain (il.above kp.above).plain hfit hj (fun h' pl sb => ?_) (fit_line (by rw [List.size_toArray]; lia))
   have il' : IsLst h' a (vs.eraseIdx n) := by obtain ⟨m, e⟩ := pl; exact ⟨m, by rw [e]; simp⟩
   have rl' : RelL (W ++ Oo) s₁.heap (if last then (x :: r).dropLast else r) (vs.eraseIdx n) := by
    rw [he, List.eraseIdx_eq_take_drop_succ, List.eraseIdx_eq_take_drop_succ]
    exact ((rl.above kp.above).take n).append ((rl.above kp.above).drop (n + 1))
   obtain ⟨k₃, c₃⟩ := (k.later kp).change hn hl (rd.above kp.above) sb il' rl' s₁.toks (Nat.le_refl _)
   exact PostS.kp kp (post_store k₃ c₃)
  refine wpAny_Delete (wpAny_deleteEach_cons (wpAny_delete_Subscript (wpAny_Name (rd.load k.ok.eo.kind ?_) rd.1)))
  rcases hkx with ⟨rfl, kk, kp, rfl⟩ | ⟨rfl, kk, kp, up, rfl⟩
  ·refine ((ev_const (O := W ++ Oo) (p := .int 0) rfl).up).use fun v s₁ kp₁ r₁ => ?_
   obtain ⟨t, rfl⟩ := r₁
   refine wpAny_mono (fin 0 0 t s₁ kp₁ (by decide) ?_ rfl) (fun z1 s' q => wpAny_deleteEach_nil q) fun z1 z2 x => x
   exact StrLaws.seqIndex_nonneg (Int.le_refl _) (by rw [List.size_toArray]; lia)
  ·refine (s_neg ((ev_const (O := W ++ Oo) (p := .int 1) rfl).up)).use fun v s₁ kp₁ r₁ => ?_
   obtain ⟨t, rfl⟩ := r₁
   refine wpAny_mono (fin (-1) (vs.length - 1) t s₁ kp₁ (by decide) ?_ ?_) (fun z1 s' q => wpAny_deleteEach_nil q) fun z1 z2 x => x
   ·have := StrLaws.seqIndex_neg (i := -1) (n := vs.toArray.size) (by lia) (by rw [List.size_toArray]; lia)
    rw [this]
    congr 1
    rw [List.size_toArray]; lia
   ·simp only [if_true]
    rw [← hlen, Nat.add_sub_cancel]
    rw [List.dropLast_eq_take, List.eraseIdx_eq_take_drop_succ]
    simp
end
end Rs.Internal
end
section
set_option tactic.hygienic false
set_option backward.match.sparseCases false
open PySem PySem.Calls PyProof.Rows PySem.SeqAt PySem.Builtin.Str
namespace Rs.Internal
noncomputable def flatP : PV → Bool
 | .none | .bool _ | .int _ | .str z1 => true
 | z1 => false
theorem Rel.flat {O O' : List Addr} {h h' : Heap} {p : PV} {v : Value} (hp : flatP p = true) (r : Rel O h p v) : Rel O' h' p v := by
 cases p <;> first | exact r | (exact absurd hp Bool.false_ne_true)
theorem RelL.flat {O O' : List Addr} {h h' : Heap} : ∀ {l : List PV} {vs : List Value}, (∀ p ∈ l, flatP p = true) → RelL O h l vs → RelL O' h' l vs := by
 intro l
 induction l with
 | nil =>
  intro _ _ r
  exact r
 | cons p l ih__ =>
  rintro _ hp ⟨v, us, e, r1, r2⟩
  exact ⟨v, us, e, r1.flat (hp p (by simp)), ih__ (fun q m => hp q (by simp [m])) r2⟩
noncomputable def clsL (o : Obj) : Bool := match o.cls with
 | .type t => t == "list"
 | z1 => false
theorem clsL_of {o : Obj} (h : clsL o = true) : o.cls = .type "list" := by
 revert h
 delta clsL
 cases o.cls with
 | type t => exact fun h => congrArg _ (eq_of_beq h)
 | _ => exact fun h => absurd (show false = true from h) Bool.false_ne_true
noncomputable def isLs (h : Heap) (a : Addr) : Bool := ((h.get? a).map clsL).getD false
theorem isLs_of {h : Heap} {a : Addr} (x : isLs h a = true) : ∃ o, h.get? a = some o ∧ o.cls = .type "list" := by
 revert x
 delta isLs
 cases h.get? a with
 | none => exact fun x => absurd (show false = true from x) Bool.false_ne_true
 | some o => exact fun x => ⟨o, rfl, clsL_of x⟩
noncomputable def SL (h : Heap) : List Addr := (List.range h.objs.size).filter (isLs h)
set_option tactic.hygienic true in
theorem mem_SL {h : Heap} {a : Addr} : a ∈ SL h ↔ isLs h a = true := by
 unfold SL
 rw [List.mem_filter, List.mem_range]
 constructor
 ·exact fun x => x.2
 ·intro x
  refine ⟨?_, x⟩
  obtain ⟨o, e, _⟩ := isLs_of x
  exact Heap.lt_size e
set_option tactic.hygienic true in
theorem SL_stands {h : Heap} {a : Addr} (m : a ∈ SL h) : ∃ o, h.get? a = some o ∧ o.cls = .type "list" := by
 exact isLs_of (mem_SL.mp m)
section
variable {prog : Program} {w : World} {A : Around} {G : Gl} {φ : Nat → List PV → Option PV} {F : Nat} {hb : Heap} {gl fn : List Str} {mg mb : Str → Option Value} {Oo O O' W W' W₁ wr : List Addr} {cx : Cx} {env : Env} {σ σ' : Store} {s₀ s s₁ s' s₂ : Shared} {p : PV} {pos : Pos} {fl : Fl} {f : Flow}
theorem Ev.more {t : Sem Value} (hp : flatP p = true ∨ ∃ a b c, p = .rng a b c) (k : Kp s₀ s) (h : Ev prog w A O t p s) : Ev prog w A (O ++ SL s₀.heap) t p s :=
 wpAny_mono h (fun v s' x => ⟨x.1, by
  rcases hp with hp | ⟨a, b, c, rfl⟩
  ·exact x.2.flat hp
  ·refine cps fun PP kk => ?_
   obtain ⟨r, t1, t2, t3, ee1, hr, hi⟩ := x.2
   refine kk ?_
   clear kk PP
   subst ee1
   refine ⟨r, t1, t2, t3, rfl, fun m => ?_, hi⟩
   rcases List.mem_append.mp m with m | m
   ·exact hr m
   ·obtain ⟨o, e1, e2⟩ := SL_stands m
    have := (k.trans x.1).above _ _ e1
    have hi' : s'.heap.get? r = _ := hi
    rw [hi'] at this; (obtain rfl := oi this; clear this); simp at e2⟩) fun z1 z2 f => f
theorem Alive.more (al : Alive O s.heap) (k : Above s₀.heap s.heap) : Alive (O ++ SL s₀.heap) s.heap := fun a m => by
 rcases List.mem_append.mp m with m | m
 ·exact al a m
 ·obtain ⟨o, e1, _⟩ := SL_stands m; exact ⟨o, k _ _ e1⟩
theorem new_of_SL {a : Addr} {vs : List Value} (k : Above s₀.heap s.heap) (hl : IsLst s.heap a vs) (ha : a ∉ O ++ SL s₀.heap) : s₀.heap.get? a = none := by
 cases e : s₀.heap.get? a with
 | none => rfl
 | some o =>
  refine absurd (List.mem_append_right O (mem_SL.mpr ?_)) ha
  obtain ⟨n, e'⟩ := hl
  have := k _ _ e
  rw [e'] at this; obtain rfl := oi this
  delta isLs; rw [e]; rfl
theorem own_stored {y : Str} {i : Nat} {l : List PV} {vs : List Value} {a : Addr} {E : Value → Shared → Prop} (k : SOk hb Oo W cx env σ s) (kp : Kp s s₁) (ha : s.heap.get? a = none) (hl : IsLst s₁.heap a vs) (hr : RelL (a :: (W ++ Oo)) s₁.heap l vs) (hi : slotF cx y = some i) :
  wpAny (model prog w) A (storeName env y (.ref a)) (fun z1 s' => PostS hb Oo cx env W s .nx (σ.set i (.own l)) .next s') E s₁ := by
 have hst : ∃ o, s₁.heap.get? a = some o := let ⟨n, e⟩ := hl; ⟨_, e⟩
 refine (adopt k kp ha hst).store hi (sl := .own l) ⟨a, vs, rfl, hl, hr⟩ (fun l' e => ⟨a, rfl, by simp, adopt_new k kp ha⟩) fun s₂ k₂ c₂ => ?_
 refine ⟨a :: W, k₂, kp.ch.seq c₂ fun b m => ?_, fun b m => ?_, rfl⟩
 ·rcases List.mem_cons.mp m with rfl | m
  ·exact .inr ha
  ·exact .inl m
 ·rcases List.mem_cons.mp m with rfl | m
  ·exact .inr ha
  ·exact .inl m
theorem own_of_ev {value : PySem.Expr} {y : Str} {np : Pos} {i : Nat} {l : List PV} (hsw : swapsWith value (some (.Name y np)) pos.line env = pure false) (k : SOk hb Oo W cx env σ s) (hi : slotF cx y = some i) (hfl : ∀ q ∈ l, flatP q = true)
  (h : Ev prog w A ((W ++ Oo) ++ SL s.heap) (eval value env) (.lst l) s) : wpAny (model prog w) A (exec (.Assign [.Name y np] value pos) env) (PostS hb Oo cx env W s .nx (σ.set i (.own l))) (fun z1 z2 => False) s := by
 refine wpAny_Assign_Name (h.use fun v s₁ kp r => ?_) hsw
 refine cps fun PP kk => ?_
 obtain ⟨a, vs, ee1, ha, hl, hr⟩ := r
 refine kk ?_
 clear kk PP
 subst ee1
 exact own_stored k kp (new_of_SL kp.above hl ha) hl (hr.flat hfl) hi
theorem list_inv {n : Nat} {f : Str} {np cp : Pos} {e : PySem.Expr} {kws : List Keyword} {x : X} (hf : f = "list") (h : cX (n + 1) cx (.Call (.Name f np) [e] kws cp) = some x) (hx : freshX x = true) : kws = [] ∧ isGlob cx f = true ∧ ∃ xs, x = .bf .listOf xs ∧ cXs n cx [e] = some xs := by
 replace h := call_inv h
 obtain ⟨hk, _, hg, h⟩ := h
 refine ⟨hk, hg, ?_⟩
 rcases h with ⟨k, xs, _, _, rfl⟩ | ⟨y, i, _, _, rfl⟩ |
  ⟨k, xs, hk, hxs, rfl⟩
 ·exact absurd hx Bool.false_ne_true
 ·exact absurd hx Bool.false_ne_true
 ·obtain rfl := Bf.isL_of hx
  exact ⟨xs, rfl, hxs⟩
theorem split_inv {n : Nat} {o : PySem.Expr} {name : Str} {apos cp : Pos} {e : PySem.Expr} {kws : List Keyword} {x : X} (h : cX (n + 1) cx (.Call (.Attribute o name apos) [e] kws cp) = some x) (hx : freshX x = true) :
  kws = [] ∧ (apos.endLine == cp.line) = true ∧ baseOk o = true ∧ ∃ b xs, x = .mf .split b xs ∧ cX n cx o = some b ∧ cXs n cx [e] = some xs := by
 replace h := meth_inv h
 obtain ⟨hk, h1, h2, h⟩ := h
 refine ⟨hk, h1, h2, ?_⟩
 rcases h with ⟨_, _, _, a, y, _, _, rfl⟩ |
  ⟨q, y, _, _, rfl⟩ |
  ⟨k, y, xs, _, hy, hxs, rfl⟩
 ·exact absurd hx Bool.false_ne_true
 ·exact absurd hx Bool.false_ne_true
 ·obtain rfl := Mf.isS_of hx
  exact ⟨y, xs, rfl, hy, hxs⟩
end
end Rs.Internal
end
section
set_option tactic.hygienic false
open PySem PySem.Calls PyProof.Rows PySem.SeqAt PySem.Builtin.Str
namespace Rs.Internal
section
variable {prog : Program} {w : World} {A : Around} {G : Gl} {φ : Nat → List PV → Option PV} {F : Nat} {hb : Heap} {gl fn : List Str} {mg mb : Str → Option Value} {Oo O O' W W' W₁ wr : List Addr} {cx : Cx} {env : Env} {σ σ' : Store} {s₀ s s₁ s' s₂ : Shared} {p : PV} {pos : Pos} {fl : Fl} {f : Flow}
theorem EvAll.more1 {e : PySem.Expr} {p : PV} (hp : flatP p = true ∨ ∃ a b c, p = .rng a b c) (h : EvAll prog w A O env [e] [p] s) : EvAll prog w A (O ++ SL s.heap) env [e] [p] s := by
 refine cps fun PP kk => ?_
 obtain ⟨q, r, e1, n, h, e2⟩ := h
 refine kk ?_
 clear kk PP
 cases e1
 exact ⟨p, [], rfl, n, fun s' k => Ev.more hp k (h s' k), rfl⟩
section
variable (g : Glob prog w G φ hb gl fn A mg mb) {n : Nat} (sn : ∀ n, Snd prog w A G φ hb gl fn n) (hgl : cx.gl = gl) (hfn : cx.fn = fn) {y : Str} {np : Pos} {i : Nat} (hi : slotF cx y = some i) (k : SOk hb Oo W cx env σ s) {l : List PV}
include sn hgl hfn hi k
theorem o_disp {es : List PySem.Expr} {lp : Pos} {xs : Xs} (hxs : cXs n cx es = some xs) (hp : evX G φ (.list xs) σ = some (.lst l)) : wpAny (model prog w) A (exec (.Assign [.Name y np] (.List es lp) pos) env) (PostS hb Oo cx env W s .nx (σ.set i (.own l))) (fun z1 z2 => False) s := by
 replace hp := bnd hp
 obtain ⟨ps, hps, hp⟩ := hp
 replace hp := its hp
 obtain ⟨hf, hp⟩ := hp
 cases hp
 replace hf := fitL_iff hf
 have hall := (sn n).xs cx env es xs hgl hfn hxs _ _ _ _ k.ok hps
 refine wpAny_Assign_Name ?_ rfl
 rw [arm_eval_List]
 refine wpAny_bind (wpAny_standAt (wpAny_bind ((hall.spliced (pos := lp)).use fun vs s₁ kp₁ r₁ => wpAny_newList ?_ (fit_line (by have := r₁.length; lia)))))
 have n0 : s₁.heap.get? s₁.heap.objs.size = none := Heap.get?_none_of_le (Nat.le_refl _)
 exact own_stored k (kp₁.trans (Kp.push _ _)) (off_base kp₁.above n0) ⟨0, Heap.get?_push_size _ rfl⟩ ((RelL.fresh (Nat.le_refl _) _ _ r₁).above (Above.push _ _)) hi
include g
theorem o_list {fp cp : Pos} {e : PySem.Expr} {xs : Xs} (hg : isGlob cx "list" = true) (hxs : cXs n cx [e] = some xs) (hp : evX G φ (.bf .listOf xs) σ = some (.lst l)) :
  wpAny (model prog w) A (exec (.Assign [.Name y np] (.Call (.Name "list" fp) [e] [] cp) pos) env) (PostS hb Oo cx env W s .nx (σ.set i (.own l))) (fun z1 z2 => False) s := by
 replace hp := bnd hp
 obtain ⟨ps, hps, hp⟩ := hp
 obtain ⟨q, hq, hp'⟩ := bnd (show (one? ps).bind _ = some (PV.lst l) from hp)
 rw [one_of hq] at hps hp
 cases q with
 | rng lo hi' st =>
  replace hp' := its hp'
  obtain ⟨_, hp'⟩ := hp'
  cases hp'
  have hall := ((sn n).xs cx env [e] xs hgl hfn hxs _ _ _ _ k.ok hps).more1 (.inr ⟨_, _, _, rfl⟩)
  refine own_of_ev rfl k hi (fun q m => ?_) (s_call_type (builtinName g k.ok.eo hg (by decide) (by decide +kernel)) (k.ok.ns g) (k.ok.bi g) hall rfl fun vs s' kp r => b_listOf g.han ((k.ok.al.above kp.above).more kp.above) hp r)
  unfold rangeL at m
  obtain ⟨_, _, rfl⟩ := List.mem_map.mp m
  rfl
 | _ => exact nope hp'
omit g
theorem o_split {o : PySem.Expr} {ap cp : Pos} {e : PySem.Expr} {b : X} {xs : Xs} (hline : (ap.endLine == cp.line) = true) (hbase : baseOk o = true) (hb' : cX n cx o = some b) (hxs : cXs n cx [e] = some xs) (hp : evX G φ (.mf .split b xs) σ = some (.lst l)) :
  wpAny (model prog w) A (exec (.Assign [.Name y np] (.Call (.Attribute o "split" ap) [e] [] cp) pos) env) (PostS hb Oo cx env W s .nx (σ.set i (.own l))) (fun z1 z2 => False) s := by
 replace hp := bnd hp
 obtain ⟨u, hu, hp⟩ := hp
 replace hp := bnd hp
 obtain ⟨ps, hps, hp⟩ := hp
 obtain ⟨x, hx, hp'⟩ := bnd (show u.str?.bind _ = some (PV.lst l) from hp)
 replace hp' := bnd hp'
 obtain ⟨q, hq, hp'⟩ := hp'
 replace hp' := bnd hp'
 obtain ⟨z, hz, hp'⟩ := hp'
 replace hp' := its hp'
 obtain ⟨_, hp'⟩ := hp'
 rw [PV.str_of hx] at hu hp
 rw [one_of hq, PV.str_of hz] at hps hp
 cases hp'
 have hall := ((sn n).xs cx env [e] xs hgl hfn hxs _ _ _ _ k.ok hps).more1 (.inl rfl)
 have hev := Ev.more (s₀ := s) (.inl rfl) (Kp.refl s) ((sn n).x cx env o b hgl hfn hb' _ _ _ _ k.ok hu).ev
 refine own_of_ev rfl k hi (fun q m => ?_) (s_meth hbase hline (show 1 < 30 by decide) hev hall fun ov s' kp r => m_split ((k.ok.al.above kp.above).more kp.above) hp r)
 obtain ⟨_, _, rfl⟩ := List.mem_map.mp m
 rfl
include g
theorem o_any {value : PySem.Expr} {x : X} (hc : cX n cx value = some x) (hf1 : freshE value = true) (hf2 : freshX x = true) (hp : evX G φ x σ = some (.lst l)) : wpAny (model prog w) A (exec (.Assign [.Name y np] value pos) env) (PostS hb Oo cx env W s .nx (σ.set i (.own l))) (fun z1 z2 => False) s := by
 cases n with
 | zero => exact nope hc
 | succ n =>
  cases value with
  | List es lp =>
   replace hc := mpd hc
   obtain ⟨xs, hxs, rfl⟩ := hc
   exact o_disp sn hgl hfn hi k hxs hp
  | Call c args kws cp =>
   replace hf1 : (sole args).isSome = true ∧ freshC c = true := by rw [← Bool.and_eq_true]; exact hf1
   obtain ⟨e, he⟩ := Option.isSome_iff_exists.mp hf1.1
   obtain rfl := sole_of he
   replace hf1 := hf1.2
   cases c with
   | Name f fp =>
    obtain rfl : f = "list" := beq_iff_eq.mp hf1
    refine cps fun PP kk => ?_
    obtain ⟨ee1, hg, xs, ee2, hxs⟩ := list_inv rfl hc hf2
    refine kk ?_
    clear kk PP
    subst ee1
    subst ee2
    exact o_list g sn hgl hfn hi k hg hxs hp
   | Attribute o nm ap =>
    obtain rfl : nm = "split" := beq_iff_eq.mp hf1
    refine cps fun PP kk => ?_
    obtain ⟨ee3, hline, hbase, b, xs, ee4, hb', hxs⟩ := split_inv hc hf2
    refine kk ?_
    clear kk PP
    subst ee3
    subst ee4
    exact o_split sn hgl hfn hi k hline hbase hb' hxs hp
   | _ => exact absurd hf1 Bool.false_ne_true
  | _ => exact absurd hf1 Bool.false_ne_true
end
theorem s_asgO (g : Glob prog w G φ hb gl fn A mg mb) {n : Nat} (sn : ∀ n, Snd prog w A G φ hb gl fn n) (hgl : cx.gl = gl) (hfn : cx.fn = fn) {y : Str} {np : Pos} {value : PySem.Expr} {x : X} {i : Nat} {fr : List Nat} (hc : cX n cx value = some x) (hi : slotF cx y = some i)
  (hf1 : freshE value = true) (hf2 : freshX x = true) : SSa prog w A G φ F hb cx env (.Assign [.Name y np] value pos) (.asgO fr i x) := fun Oo W σ s fl σ' k h => by
 replace h := bnd h
 obtain ⟨p, hp, h⟩ := h
 replace h := mpd h
 obtain ⟨l, hl, h⟩ := h
 rw [PV.lst_of hl] at hp
 cases h
 obtain ⟨W₁, k₁, hW⟩ := freeze fr k
 exact wpAny_mono (o_any g sn hgl hfn hi k₁ hc hf1 hf2 hp) (fun f s' q => PostS.sub hW q) fun z1 z2 x => x
end
end Rs.Internal
end
section
set_option tactic.hygienic false
open PySem PySem.Calls PyProof.Rows PySem.SeqAt PySem.Builtin.Str
namespace Rs.Internal
end Rs.Internal
end
section
set_option tactic.hygienic false
open PySem PySem.Calls PyProof.Rows PySem.SeqAt PySem.Builtin.Str
namespace Rs.Internal
noncomputable def setSls (σ : Store) (l : List (Nat × Slot)) : Store := l.foldl (fun σ x => σ.set x.1 x.2) σ
theorem setSls_swap : ∀ (l : List (Nat × Slot)) (σ : Store) (i : Nat) (x : Slot), i ∉ l.map (·.1) → setSls (σ.set i x) l = (setSls σ l).set i x := by
 intro l
 induction l with
 | nil =>
  intro _ _ _ _
  exact rfl
 | cons a l ih__ =>
  intro σ i x h
  have h1 : i ≠ a.1 := fun e => h (by simp [e])
  show setSls ((σ.set i x).set a.1 a.2) l = (setSls (σ.set a.1 a.2) l).set i x
  rw [List.set_comm _ _ h1, ih__ _ i x fun m => h (by simp [m])]
theorem setSls_append (l m : List (Nat × Slot)) (σ : Store) : setSls σ (l ++ m) = setSls (setSls σ l) m := by unfold setSls; rw [List.foldl_append]
theorem setSls_reverse : ∀ (l : List (Nat × Slot)) (σ : Store), (l.map (·.1)).Nodup → setSls σ l.reverse = setSls σ l := by
 intro l
 induction l with
 | nil =>
  intro _ _
  exact rfl
 | cons a l ih__ =>
  intro σ h
  have h' := List.nodup_cons.mp h
  rw [List.reverse_cons, setSls_append, ih__ σ h'.2]
  show (setSls σ l).set a.1 a.2 = setSls (σ.set a.1 a.2) l
  exact (setSls_swap l σ a.1 a.2 h'.1).symm
noncomputable def slotsP : List (Nat × Bool) → List PV → Option (List (Nat × Slot))
 | [], vs => if vs.isEmpty then some [] else none
 | t :: r, vs => match vs with
  | [] => none
  | v :: vs => if t.2 then v.lst?.bind fun l => (slotsP r vs).map ((t.1, .own l) :: ·) else (slotsP r vs).map ((t.1, .val v) :: ·)
theorem storeP_eq : ∀ (ts : List (Nat × Bool)) (vs : List PV) (σ : Store), storeP σ ts vs = (slotsP ts vs).map (setSls σ)
 | [], [], σ => rfl
 | [], z1 :: z2, z3 => rfl
 | z1 :: z2, [], z3 => rfl
 | (i, false) :: r, v :: vs, σ => by
  show storeP (setS σ i v) r vs = ((slotsP r vs).map ((i, Slot.val v) :: ·)).map (setSls σ)
  rw [storeP_eq r vs]; cases slotsP r vs <;> rfl
 | (i, true) :: r, v :: vs, σ => by
  show (v.lst?.bind fun l => storeP (σ.set i (.own l)) r vs) = (v.lst?.bind fun l => (slotsP r vs).map ((i, Slot.own l) :: ·)).map (setSls σ)
  cases v.lst? with
  | none => rfl
  | some l =>
   show storeP (σ.set i (.own l)) r vs = ((slotsP r vs).map ((i, Slot.own l) :: ·)).map (setSls σ)
   rw [storeP_eq r vs]; cases slotsP r vs <;> rfl
theorem slotsP_fst : ∀ {ts : List (Nat × Bool)} {vs : List PV} {l : List (Nat × Slot)}, slotsP ts vs = some l → l.map (·.1) = ts.map (·.1)
 | [], vs, l, h => by rw [← oi (its h).2]; rfl
 | z1 :: z2, [], z3, h => nope h
 | (i, false) :: r, v :: vs, l, h => by
  obtain ⟨m, hm, h⟩ := mpd h
  rw [← h, List.map_cons, slotsP_fst hm]; rfl
 | (i, true) :: r, v :: vs, l, h => by
  obtain ⟨q, _, h⟩ := bnd h
  obtain ⟨m, hm, h⟩ := mpd h
  rw [← h, List.map_cons, slotsP_fst hm]; rfl
section
variable {prog : Program} {w : World} {A : Around} {G : Gl} {φ : Nat → List PV → Option PV} {F : Nat} {hb : Heap} {gl fn : List Str} {mg mb : Str → Option Value} {Oo O O' W W' W₁ wr As : List Addr} {cx : Cx} {env : Env} {σ σ' : Store} {s₀ s s₁ s' s₂ : Shared} {p : PV} {pos : Pos} {fl : Fl} {f : Flow}
noncomputable def SlRel (O : List Addr) (h : Heap) : List (Nat × Slot) → List Value → List Addr → Prop
 | [], vs, As => vs = [] ∧ As = []
 | (z1, .own z2) :: z3, z4, z5 => False
 | (z1, .val p) :: r, vs, As => ∃ v vs', vs = v :: vs' ∧ Rel O h p v ∧ SlRel O h r vs' As
 | (z1, .no) :: z2, z3, z4 => False
theorem SlRel.agree {h h' : Heap} (k : Agree O h h') (hA : ∀ a us, a ∈ As → IsLst h a us → IsLst h' a us) : ∀ {l : List (Nat × Slot)} {vs : List Value} {Bs : List Addr}, (∀ b ∈ Bs, b ∈ As) → SlRel O h l vs Bs → SlRel O h' l vs Bs
 | [], z1, z2, z3, x => x
 | (z1, .own z2) :: z3, z4, z5, z6, x => x.elim
 | (z1, .val p) :: r, vs, Bs, hB, hh => by
  obtain ⟨v, vs', e1, e2, e3⟩ := hh
  exact ⟨v, vs', e1, e2.agree k, SlRel.agree k hA hB e3⟩
 | (z1, .no) :: z2, z3, z4, z5, x => x.elim
theorem SlRel.append {h : Heap} : ∀ {l l' : List (Nat × Slot)} {vs vs' : List Value} {Bs Bs' : List Addr}, SlRel O h l vs Bs → SlRel O h l' vs' Bs' → SlRel O h (l ++ l') (vs ++ vs') (Bs ++ Bs')
 | [], z1, z2, z3, z4, z5, hh, y => by
  obtain ⟨e1, e2⟩ := hh
  subst e1; subst e2; exact y
 | (z1, .own z2) :: z3, z4, z5, z6, z7, z8, x, z9 => x.elim
 | (z1, .val p) :: r, z2, vs, z3, Bs, z4, hh, y => by
  obtain ⟨v, vs', e1, e2, e3⟩ := hh
  subst e1; exact ⟨v, _, rfl, e2, SlRel.append e3 y⟩
 | (z1, .no) :: z2, z3, z4, z5, z6, z7, x, z8 => x.elim
theorem SlRel.reverse {h : Heap} : ∀ {l : List (Nat × Slot)} {vs : List Value} {Bs : List Addr}, SlRel O h l vs Bs → SlRel O h l.reverse vs.reverse Bs.reverse
 | [], z1, z2, hh => by
  obtain ⟨e1, e2⟩ := hh
  subst e1; subst e2; exact ⟨rfl, rfl⟩
 | (z1, .own z2) :: z3, z4, z5, x => x.elim
 | (i, .val p) :: r, vs, Bs, hh => by
  obtain ⟨v, vs', e1, e2, e3⟩ := hh
  subst e1
  rw [List.reverse_cons, List.reverse_cons]
  have := SlRel.append (SlRel.reverse e3) (l' := [(i, .val p)]) (vs' := [v]) (Bs' := []) ⟨v, [], rfl, e2, rfl, rfl⟩
  rw [List.append_nil] at this
  exact this
 | (z1, .no) :: z2, z3, z4, x => x.elim
theorem SlRel.len {h : Heap} : ∀ {l : List (Nat × Slot)} {vs : List Value} {Bs : List Addr}, SlRel O h l vs Bs → l.length = vs.length
 | [], z1, z2, hh => by
  obtain ⟨e1, e2⟩ := hh
  subst e1; rfl
 | (z1, .own z2) :: z3, z4, z5, x => x.elim
 | (z1, .val p) :: r, vs, Bs, hh => by
  obtain ⟨v, vs', e1, e2, e3⟩ := hh
  subst e1; simp [SlRel.len e3]
 | (z1, .no) :: z2, z3, z4, x => x.elim
set_option tactic.hygienic true in
theorem SOk.slots {E : Value → Shared → Prop} (st : Str × Pos → Value → Sem Unit) (hst : ∀ n v Q s, wpAny (model prog w) A (storeName env n.1 v) Q E s → wpAny (model prog w) A (st n v) Q E s) :
  ∀ {ns : List (Str × Pos)} {sls : List (Nat × Slot)} {vs : List Value} {As : List Addr} {σ : Store} {s : Shared} {Q : Unit → Shared → Prop}, SOk hb Oo W cx env σ s → ns.map (fun n => slotF cx n.1) = sls.map (fun x => some x.1) → (sls.map (·.1)).Nodup → SlRel (W ++ Oo) s.heap sls vs As → As.Nodup →
   (∀ a ∈ As, a ∈ W ∧ a ≠ env.locals ∧ (∀ x c, env.cells.lookup x = some c → a ≠ c) ∧ ∀ j y, cx.nm[j]? = some y → IsOwn σ j → ¬ Rd env s.heap y (.ref a)) →
   (∀ s', SOk hb Oo W cx env (setSls σ sls) s' → Ch W s s' → Q () s') → wpAny (model prog w) A (assignInOrder (ns.map st) vs) Q E s
 | [], sls, vs, As, σ, s, Q, k, hm, hn, hv, hnd, hA, h => by
  cases sls with
  | nil => obtain ⟨rfl, _⟩ := hv; exact assignInOrder_nil (h s k (Ch.refl _ _))
  | cons z1 z2 => simp at hm
 | n :: ns, sls, vs, As, σ, s, Q, k, hm, hn, hv, hnd, hA, h => by
  cases sls with
  | nil => simp at hm
  | cons x sls =>
   obtain ⟨i, sl⟩ := x
   simp only [List.map_cons, List.cons.injEq] at hm
   obtain ⟨hi, hm⟩ := hm
   have hn' := List.nodup_cons.mp hn
   have hi' : slotF cx n.1 = some i := hi
   have hname : ∀ j y, cx.nm[j]? = some y → y ≠ n.1 → j ≠ i := fun j y hy hne e => by
    subst e
    obtain ⟨q, _, _⟩ := slotF_some k.ok.eo hi'
    rw [q] at hy; (obtain rfl := oi hy; clear hy); exact hne rfl
   cases sl with
   | no => exact hv.elim
   | val p =>
    obtain ⟨v, vs', rfl, r1, r2⟩ := hv
    refine assignInOrder_cons (hst n v _ _ (k.storeX hi' (sl := .val p) r1 (fun l e => Slot.dif e rfl) fun s₁ k₁ c₁ q1 q2 q3 => ?_))
    refine SOk.slots st hst k₁ hm hn'.2 (SlRel.agree (As := As) (c₁.agree.mono fun a m => List.mem_append_left _ m) (fun a us m => q3 a us (hA a m).2.1 (hA a m).2.2.1) (fun b m => m) r2) hnd (fun a m => ?_) fun s₂ k₂ c₂ => h s₂ k₂ (c₁.trans c₂)
    obtain ⟨a1, a2, a3, a4⟩ := hA a m
    refine ⟨a1, a2, a3, fun j y hy o hr => ?_⟩
    have hji : j ≠ i := fun e => by
     subst e
     obtain ⟨l, e⟩ := o
     rw [getS_set] at e
     split at e
     ·exact Slot.dif e rfl
     ·rename_i hc
      exact hc ⟨rfl, by rw [k.ok.rds.len]; exact (List.getElem?_eq_some_iff.mp hy).1⟩
    have o' : IsOwn σ j := by obtain ⟨l, e⟩ := o; rw [getS_set, if_neg (fun q => hji q.1.symm)] at e; exact ⟨l, e⟩
    obtain ⟨f, h1, _⟩ := k.own
    obtain ⟨hnm, _, _⟩ := slotF_some k.ok.eo hi'
    have hyn : y ≠ n.1 := fun e => by subst e; exact hji (nodup_idx k.ok.fw.nodup hy hnm)
    have := (q1 y _ hyn (h1 j y hy o').1).same hr
    cases this
    exact a4 j y hy o' (h1 j y hy o').1
   | own l => exact hv.elim
end
end Rs.Internal
end
section
set_option tactic.hygienic false
open PySem PySem.Calls PyProof.Rows PySem.SeqAt PySem.Builtin.Str
namespace Rs.Internal
section
variable {prog : Program} {w : World} {A : Around} {G : Gl} {φ : Nat → List PV → Option PV} {F : Nat} {hb : Heap} {gl fn : List Str} {mg mb : Str → Option Value} {Oo O O' W W' W₁ wr As : List Addr} {cx : Cx} {env : Env} {σ σ' : Store} {s₀ s s₁ s' s₂ : Shared} {p : PV} {pos : Pos} {fl : Fl} {f : Flow}
theorem adopts (k : SOk hb Oo W cx env σ s₀) (kp : Kp s₀ s) (ha : ∀ a ∈ As, s₀.heap.get? a = none) (hl : Alive As s.heap) : SOk hb Oo (As ++ W) cx env σ s where
 ok := by rw [List.append_assoc]; exact Ok.wide (wr := As) k.ok kp ha hl
 loc := List.mem_append_right _ k.loc
 cel := fun x c h => List.mem_append_right _ (k.cel x c h)
 new := fun b m => by
  rcases List.mem_append.mp m with m | m
  ·exact off_base k.ok.base (ha b m)
  ·exact k.new b m
 sep := fun b m q => by
  rcases List.mem_append.mp m with m | m
  ·obtain ⟨o, e⟩ := k.ok.al b (List.mem_append_right _ q); rw [ha b m] at e; exact nope e
  ·exact k.sep b m q
 nofree := k.nofree
 own := by
  obtain ⟨f, h1, h2⟩ := k.own
  exact ⟨f, fun i x e o => ⟨(h1 i x e o).1.above kp.above, List.mem_append_right _ (h1 i x e o).2⟩, h2⟩
noncomputable def RowPost (O : List Addr) (sls : List (Nat × Slot)) (s : Shared) (us : List Value) (s₁ : Shared) : Prop := Kp s s₁ ∧ ∃ As : List Addr, As.Nodup ∧ (∀ a ∈ As, s.heap.get? a = none) ∧ Alive As s₁.heap ∧ SlRel (As ++ O) s₁.heap sls us As
theorem row_vals : ∀ {ts : List (Nat × Bool)} {ps : List PV} {sls : List (Nat × Slot)} {us : List Value} {h : Heap}, (∀ t ∈ ts, t.2 = false) → slotsP ts ps = some sls → RelL O h ps us → SlRel O h sls us []
 | [], [], sls, us, h, z1, hs, hr => by (obtain rfl := oi hs; clear hs); exact ⟨hr, rfl⟩
 | (i, b) :: ts, p :: ps, sls, us, h, hb, hs, hr => by
  have : b = false := hb (i, b) (by simp)
  subst this
  replace hs := mpd hs
  obtain ⟨m, hm, rfl⟩ := hs
  refine cps fun PP kk => ?_
  obtain ⟨v, vs, ee1, r1, r2⟩ := hr
  refine kk ?_
  clear kk PP
  subst ee1
  exact ⟨v, vs, rfl, r1, row_vals (fun t q => hb t (by simp [q])) hm r2⟩
 | [], z1 :: z2, z3, z4, z5, z6, hs, z7 => nope hs
 | (i, b) :: ts, [], z1, z2, z3, hb, hs, z4 => by
  have : b = false := hb (i, b) (by simp)
  subst this
  exact nope hs
end
end Rs.Internal
end
section
set_option tactic.hygienic false
set_option backward.match.sparseCases false
open PySem PySem.Calls PyProof.Rows PySem.SeqAt PySem.Builtin.Str
namespace Rs.Internal
theorem nodup_rev {α : Type} {l : List α} (h : l.Nodup) : l.reverse.Nodup := List.pairwise_reverse.mpr (h.imp fun e => Ne.symm e)
theorem filterMap_full {α β : Type} (g : α → Option β) (f : α → β) (h : ∀ a b, g a = some b → b = f a) : ∀ l : List α, (l.filterMap g).length = l.length → l.filterMap g = l.map f
 | [], z1 => rfl
 | a :: l, hl => by
  have hle : (l.filterMap g).length ≤ l.length := List.length_filterMap_le _ _
  cases e : g a with
  | none => rw [List.filterMap_cons, e] at hl; simp at hl; lia
  | some b =>
   rw [List.filterMap_cons, e] at hl ⊢
   simp only [List.length_cons] at hl
   rw [List.map_cons, h a b e, filterMap_full g f h l (by simpa using hl)]
set_option tactic.hygienic true in
theorem swapped_cases {env : Env} {ns : List (Str × Pos)} {k kk : Nat} {tp vp : Pos} {vs : List PySem.Expr} (hg : (vs.all (constantsAlone 8) && !vs.all (foldedForSure 8)) = false) :
  swappedStores [.Tuple (ns.map nameOf) k tp] (.Tuple vs kk vp) env = pure none ∨ swappedStores [.Tuple (ns.map nameOf) k tp] (.Tuple vs kk vp) env = pure (some (ns.map (·.1))) := by
 unfold swappedStores
 dsimp only
 split
 ·exact .inl rfl
 ·split
  ·exact .inl rfl
  ·try dsimp only
   split
   ·exact .inl rfl
   ·rename_i hn
    split
    ·exact .inl rfl
    ·rename_i hf
     split
     ·rename_i hc
      rw [hc] at hg
      simp at hg
      exact absurd hg (by simpa using hf)
     ·right
      show (pure (some _) : Sem _) = _
      congr 2
      simp only [Bool.or_eq_true, bne_iff_ne, ne_eq, not_or, Decidable.not_not] at hn
      have := filterMap_full (α := PySem.Expr) _ (fun e => match e with | .Name x z1 => x | _ => default) (fun a b h => by
       revert h
       cases a <;> intro h <;> simp at h
       ·exact h.2.symm) _ hn.1
      rw [this, List.map_map]
      rfl
section
variable {prog : Program} {w : World} {A : Around} {G : Gl} {φ : Nat → List PV → Option PV} {F : Nat} {hb : Heap} {gl fn : List Str} {mg mb : Str → Option Value} {Oo O O' W W' W₁ wr As : List Addr} {cx : Cx} {env : Env} {σ σ' : Store} {s₀ s s₁ s' s₂ : Shared} {p : PV} {pos : Pos} {fl : Fl} {f : Flow}
theorem s_asgP (hh : A.handled = none) {n : Nat} (sn : ∀ n, Snd prog w A G φ hb gl fn n) (hgl : cx.gl = gl) (hfn : cx.fn = fn) {ns : List (Str × Pos)} {tk vk : Nat} {tp vp : Pos} {vs : List PySem.Expr} {xs : Xs} {ts : List (Nat × Bool)} {fr : List Nat}
  (hxs : cXs n cx vs = some xs) (his : ns.mapM (fun n => slotF cx n.1) = some (ts.map (·.1))) (hnd : (ts.map (·.1)).Nodup) (hlen : ns.length = vs.length) (hsz : vs.length ≤ 1000) (hfx : freshXs ts xs = true)
  (hlit : ∀ t ∈ ts, t.2 = false)
  (hg : (vs.all (constantsAlone 8) && !vs.all (foldedForSure 8)) = false) : SSa prog w A G φ F hb cx env (.Assign [.Tuple (ns.map nameOf) tk tp] (.Tuple vs vk vp) pos) (.asgP fr ts xs) := fun Oo W σ s fl σ' k h => by
 replace h := bnd h
 obtain ⟨ps, hps, h⟩ := h
 replace h := bnd h
 obtain ⟨σ₂, hst, h⟩ := h
 obtain ⟨rfl, rfl⟩ := pin h
 obtain ⟨W₁, k₁, hW⟩ := freeze fr k
 refine wpAny_mono ?_ (fun f s' q => PostS.sub hW q) fun z1 z2 x => x
 rw [storeP_eq] at hst
 obtain ⟨sls, hsl, rfl⟩ := Option.map_eq_some_iff.mp hst
 have hfst := slotsP_fst hsl
 have hnsls : ns.map (fun n => slotF cx n.1) = sls.map fun x => some x.1 := by
  have : sls.map (fun x => some x.1) = (sls.map (·.1)).map some := by rw [List.map_map]; rfl
  rw [this, hfst]
  have aux : ∀ {l : List (Str × Pos)} {r : List Nat}, l.mapM (fun n => slotF cx n.1) = some r → l.map (fun n => slotF cx n.1) = r.map some := by
   intro l
   induction l with
   | nil => intro r h; simp at h; subst h; rfl
   | cons a l ih =>
    intro r h
    rw [List.mapM_cons] at h
    simp only [Option.bind_eq_bind, Option.bind_eq_some_iff, Option.pure_def, Option.some.injEq] at h
    refine cps fun PP kk => ?_
    obtain ⟨b, hb, r', hr, ee1⟩ := h
    refine kk ?_
    clear kk PP
    subst ee1
    rw [List.map_cons, List.map_cons, hb, ih hr]
  exact aux his
 have row : wpAny (model prog w) A (spliced (backTo vp (starEach vs env))) (fun us s₁ => RowPost (W₁ ++ Oo) sls s us s₁) (fun z1 z2 => False) s := by
  exact (((sn n).xs cx env vs xs hgl hfn hxs _ _ _ _ k₁.ok hps).spliced (pos := vp)).use fun us s₁ kp r => ⟨kp, [], List.nodup_nil, by simp, by intro a m; simp at m, row_vals hlit hsl (by simpa using r)⟩
 have hsllen : sls.length = ns.length := by have := congrArg List.length hnsls; simpa using this.symm
 have whole : wpAny (model prog w) A (eval (.Tuple vs vk vp) env) (fun v s₂ => ∃ us s₁ a, RowPost (W₁ ++ Oo) sls s us s₁ ∧ Kp s₁ s₂ ∧ v = .ref a ∧ IsTp s₂.heap a us) (fun z1 z2 => False) s := by
  rw [arm_eval_Tuple]
  refine wpAny_bind (wpAny_standAt (wpAny_bind (wpAny_mono row (fun us s₁ q => wpAny_newTuple ⟨us, s₁, _, q, Kp.push _ _, rfl, 0, Heap.get?_push_size _ rfl⟩ ?_) fun z1 z2 x => x)))
  refine cps fun PP kk => ?_
  obtain ⟨_, As, _, _, _, hr⟩ := q
  refine kk ?_
  clear kk PP
  exact fit_line (by have := hr.len; lia)
 have fin : ∀ (st : Str × Pos → Value → Sem Unit), (∀ n v Q s, wpAny (model prog w) A (storeName env n.1 v) Q (fun z1 z2 => False) s → wpAny (model prog w) A (st n v) Q (fun z1 z2 => False) s) → ∀ (rev : Bool) (us : List Value) (s₁ s₂ : Shared), RowPost (W₁ ++ Oo) sls s us s₁ → Kp s₁ s₂ →
   wpAny (model prog w) A (assignInOrder ((if rev then ns.reverse else ns).map st) (if rev then us.reverse else us)) (fun z1 s' => PostS hb Oo cx env W₁ s .nx (setSls (frz fr σ) sls) .next s') (fun z1 z2 => False) s₂ := fun st hst rev us s₁ s₂ q kp₂ => by
  refine cps fun PP kk => ?_
  obtain ⟨kp₁, As, nd, hn, hal, hr⟩ := q
  refine kk ?_
  clear kk PP
  have kp := kp₁.trans kp₂
  have ka : SOk hb Oo (As ++ W₁) cx env (frz fr σ) s₂ := adopts k₁ kp hn (hal.above kp₂.above)
  have hr₂ : SlRel ((As ++ W₁) ++ Oo) s₂.heap sls us As := by
   rw [List.append_assoc]
   exact SlRel.agree (As := As) kp₂.above.agree (fun a us m q => q.above kp₂.above) (fun b m => m) hr
  have hA : ∀ a ∈ As, a ∈ As ++ W₁ ∧ a ≠ env.locals ∧ (∀ x c, env.cells.lookup x = some c → a ≠ c) ∧ ∀ j y, cx.nm[j]? = some y → IsOwn (frz fr σ) j → ¬ Rd env s₂.heap y (.ref a) := fun a m => by
   refine ⟨List.mem_append_left _ m, fun e => ?_, fun x c hc e => ?_, adopt_new k₁ kp (hn a m)⟩
   ·obtain ⟨o, e'⟩ := k₁.ok.al _ (List.mem_append_left _ k₁.loc)
    rw [← e, hn a m] at e'; exact nope e'
   ·obtain ⟨o, e'⟩ := k₁.ok.al _ (List.mem_append_left _ (k₁.cel x c hc))
    rw [← e, hn a m] at e'; exact nope e'
  have done : ∀ s', SOk hb Oo (As ++ W₁) cx env (setSls (frz fr σ) sls) s' → Ch (As ++ W₁) s₂ s' → PostS hb Oo cx env W₁ s .nx (setSls (frz fr σ) sls) .next s' := fun s' k' c' => by
   have nn : ∀ x ∈ As ++ W₁, x ∈ W₁ ∨ s.heap.get? x = none := fun x m => (List.mem_append.mp m).elim (fun m => .inr (hn x m)) .inl
   exact ⟨As ++ W₁, k', kp.ch.seq c' nn, nn, rfl⟩
  cases rev with
  | false =>
   simp only [Bool.false_eq_true, if_false]
   exact SOk.slots st hst ka hnsls (by rw [hfst]; exact hnd) hr₂ nd hA done
  | true =>
   simp only [if_true]
   refine SOk.slots st hst ka (sls := sls.reverse) (As := As.reverse) (by rw [List.map_reverse, List.map_reverse, hnsls]) (by rw [List.map_reverse, hfst]; exact nodup_rev hnd) hr₂.reverse (nodup_rev nd) (fun a m => hA a (List.mem_reverse.mp m)) fun s' k' c' => ?_
   rw [setSls_reverse sls _ (by rw [hfst]; exact hnd)] at k'
   exact done s' k' c'
 have hUs : ∀ {us s₁}, RowPost (W₁ ++ Oo) sls s us s₁ → us.length = ns.length := fun q => by
  refine cps fun PP kk => ?_
  obtain ⟨_, As, _, _, _, hr⟩ := q
  refine kk ?_
  clear kk PP
  rw [← hr.len, hsllen]
 rcases swapped_cases (env := env) (ns := ns) (k := tk) (kk := vk) (tp := tp) (vp := vp) (vs := vs) hg with hsw | hsw
 ·refine PyProof.Rows.Assign_Tuple (wpAny_mono whole (fun v s₂ q => ?_) fun z1 z2 x => x) rfl hsw
  refine cps fun PP kk => ?_
  obtain ⟨us, s₁, a, q, kp₂, ee1, it⟩ := q
  refine kk ?_
  clear kk PP
  subst ee1
  refine wpAny_assign_Tuple hh it.isTuple ?_ ?_ fun h₁ he₁ => ?_
  ·rw [assignEach_names]; simp [hUs q]
  ·rw [assignEach_names, List.findIdx?_eq_none_iff]; simp
  ·rw [assignEach_names, List.map_map]
   have kp' : Kp s₂ { s₂ with heap := h₁ } := ⟨⟨_, _, rfl, fun b o e => he₁ b o (Nat.ne_of_lt (Heap.lt_size e)) e⟩, Nat.le_refl _⟩
   exact fin (fun n v => assign (nameOf n) env v) (fun n v Q s h => wpAny_assign_Name h) false us s₁ _ q (kp₂.trans kp')
 ·refine PyProof.Rows.Assign_Tuple_swapped (wpAny_mono whole (fun v s₂ q => ?_) fun z1 z2 x => x) rfl hsw
  refine cps fun PP kk => ?_
  obtain ⟨us, s₁, a, q, kp₂, ee2, it⟩ := q
  refine kk ?_
  clear kk PP
  subst ee2
  have hl : (ns.map (·.1)).length = us.toArray.size := by simp [hUs q]
  rw [hl]
  refine wpAny_unpackItems_tuple hh it.isTuple fun h₁ he₁ => ?_
  have kp' : Kp s₂ { s₂ with heap := h₁ } := ⟨⟨_, _, rfl, fun b o e => he₁ b o (Nat.ne_of_lt (Heap.lt_size e)) e⟩, Nat.le_refl _⟩
  have := fin (fun n v => bindName env n.1 v) (fun n v Q s h => PyProof.Rows.bindName_ h) true us s₁ _ q (kp₂.trans kp')
  simp only [if_true] at this
  rw [show ((ns.map (·.1)).reverse.map fun n => bindName env n) = ns.reverse.map fun n => bindName env n.1 by rw [← List.map_reverse, List.map_map]; rfl]
  exact this
end
end Rs.Internal
end
section
set_option tactic.hygienic false
open PySem PySem.Calls PyProof.Rows PySem.SeqAt PySem.Builtin.Str
namespace Rs.Internal
section
variable {prog : Program} {w : World} {A : Around} {G : Gl} {φ : Nat → List PV → Option PV} {F : Nat} {hb : Heap} {gl fn : List Str} {mg mb : Str → Option Value} {Oo O O' W W' W₁ wr As : List Addr} {cx : Cx} {env : Env} {σ σ' : Store} {s₀ s s₁ s' s₂ : Shared} {p : PV} {pos : Pos} {fl : Fl} {f : Flow}
theorem swaps_sub {value a b : PySem.Expr} {p : Pos} {line : Nat} : swapsWith value (some (.Subscript a b p)) line env = pure false := by cases value <;> rfl
theorem ts_fst {α : Type} {names : List Str} {is : List Nat} {vs : List α} (g : Str → Bool) (k : α → Bool) (h1 : names.length = is.length) (h2 : names.length = vs.length) :
  ((((names.zip is).map fun (x : Str × Nat) => (x.2, g x.1)).zip vs).map fun (x : (Nat × Bool) × α) => (x.1.1, x.1.2 && k x.2)).map (·.1) = is := by
 induction names generalizing is vs with
 | nil => cases is with
  | nil => rfl
  | cons z1 z2 => simp at h1
 | cons a names ih =>
  cases is with
  | nil => simp at h1
  | cons i is =>
   cases vs with
   | nil => simp at h2
   | cons v vs =>
    simp only [List.zip_cons_cons, List.map_cons, List.cons.injEq, true_and]
    exact ih (by simpa using h1) (by simpa using h2)
section
variable (g : Glob prog w G φ hb gl fn A mg mb) (sn : ∀ n, Snd prog w A G φ hb gl fn n) {n : Nat} (hgl : cx.gl = gl) (hfn : cx.fn = fn) {S : S}
include g sn hgl hfn
theorem a_one {t value : PySem.Expr} (h : cOne n cx t value = some S) : SSa prog w A G φ F hb cx env (.Assign [t] value pos) S := by
 have X := fun {e x} (h : cX n cx e = some x) => (sn n).x cx env e x hgl hfn h
 cases t with
 | Name y np =>
  replace h := bnd h
  obtain ⟨i, hi, h⟩ := h
  replace h := bnd h
  obtain ⟨e, he, h⟩ := h
  cases hc : (isOwn cx y && freshE value && freshX e) with
  | true =>
   rw [hc] at h
   obtain rfl := oi h
   rw [Bool.and_eq_true, Bool.and_eq_true] at hc
   exact s_asgO g sn hgl hfn he hi hc.1.2 hc.2
  | false =>
   rw [hc] at h
   obtain rfl := oi h
   exact s_asg g.han sn hgl hfn he hi
 | Subscript v k sp =>
  replace h := bnd h
  obtain ⟨y, hy, h⟩ := h
  obtain ⟨yp, rfl⟩ := nameIs_of hy
  replace h := its h
  obtain ⟨_, h⟩ := h
  replace h := bnd h
  obtain ⟨i, hi, h⟩ := h
  replace h := bnd h
  obtain ⟨q, hq, h⟩ := h
  replace h := bnd h
  obtain ⟨e, he, h⟩ := h
  obtain rfl := oi h
  exact fun Oo W σ s fl σ' k => s_setI (X he) (X hq) (slotF_some k.ok.eo hi).1 swaps_sub Oo W σ s fl σ' k
 | Tuple ts tk tp =>
  replace h := bnd h
  obtain ⟨names, hnames, h⟩ := h
  replace h := bnd h
  obtain ⟨is, his, h⟩ := h
  replace h := itn h
  obtain ⟨hnd, h⟩ := h
  rw [Bool.or_eq_false_iff, Bool.not_eq_false', decide_eq_true_eq] at hnd
  cases hv : tupIs value with
  | none =>
   rw [hv] at h
   cases h
  | some vs =>
   rw [hv] at h
   replace h := itn h
   obtain ⟨hg, h⟩ := h
   replace h := bnd h
   obtain ⟨es, hes, h⟩ := h
   obtain ⟨hno, h⟩ := itn h
   replace h := its h
   obtain ⟨hc, h⟩ := h
   obtain rfl := oi h
   obtain ⟨vk, vp, rfl⟩ := tupIs_of hv
   simp only [Bool.and_eq_true, beq_iff_eq] at hc
   obtain ⟨ns, rfl, rfl⟩ := allNames_eq hnames
   have hfst := ts_fst (names := ns.map (·.1)) (is := is) (vs := vs) (fun x => isOwn cx x && vs.all litE) isNilE (mapM_len his).symm hc.1.2
   rw [List.mapM_map] at his
   refine s_asgP g.han sn hgl hfn hes (his.trans (congrArg some hfst.symm)) (by rw [hfst]; exact hnd.1) (by simpa using hc.1.2) (Nat.le_of_ble_eq_true hc.2) hc.1.1 ?_ hg
   rw [Bool.not_eq_false'] at hno
   intro t m
   simpa using List.all_eq_true.mp hno t m
 | _ => exact nope h
theorem step_s {st : Stmt} (h : cS (n + 1) cx st = some S) (ih : ∀ b B, cSs n cx b = some B → SBs prog w A G φ F hb cx env b B) : SSa prog w A G φ F hb cx env st S := by
 have X := fun {e x} (h : cX n cx e = some x) => (sn n).x cx env e x hgl hfn h
 cases st with
 | Assign ts value pos =>
  replace h : (match sole ts with
   | some t => cOne n cx t value
   | none => (pair ts).bind fun q => (nameIs q.1).bind fun x => (nameIs q.2).bind fun y => (slotF cx x).bind fun i => (slotF cx y).bind fun j => (cX n cx value).bind fun e => some (.asg2 (fro cx e.vars) i j e)) = some S := h
  cases hs : sole ts with
  | some t =>
   rw [hs] at h
   rw [sole_of hs]
   exact a_one g sn hgl hfn h
  | none =>
   rw [hs] at h
   replace h := bnd h
   obtain ⟨q, hq, h⟩ := h
   replace h := bnd h
   obtain ⟨x, hx, h⟩ := h
   replace h := bnd h
   obtain ⟨y, hy, h⟩ := h
   replace h := bnd h
   obtain ⟨i, hi, h⟩ := h
   replace h := bnd h
   obtain ⟨j, hj, h⟩ := h
   replace h := bnd h
   obtain ⟨e, he, h⟩ := h
   obtain rfl := oi h
   obtain ⟨xp, ex⟩ := nameIs_of hx
   obtain ⟨yp, ey⟩ := nameIs_of hy
   rw [pair_of hq, ex, ey]
   exact s_asg2 (X he) hi hj
 | AugAssign t op value pos =>
  replace h := bnd h
  obtain ⟨y, hy, h⟩ := h
  obtain ⟨yp, rfl⟩ := nameIs_of hy
  replace h := bnd h
  obtain ⟨i, hi, h⟩ := h
  replace h := bnd h
  obtain ⟨e, he, h⟩ := h
  obtain rfl := oi h
  exact s_aug (X he) hi
 | Delete ts pos =>
  replace h := bnd h
  obtain ⟨q, hq, h⟩ := h
  replace h := its h
  obtain ⟨_, h⟩ := h
  replace h := bnd h
  obtain ⟨i, hi, h⟩ := h
  obtain rfl := oi h
  refine cps fun PP kk => ?_
  obtain ⟨np, sp, kx, ee1, hk⟩ := delIs_of hq
  refine kk ?_
  clear kk PP
  subst ee1
  exact fun Oo W σ s fl σ' k h => s_delI (slotF_some k.ok.eo hi).1 hk Oo W σ s fl σ' k h
 | If c t e pos =>
  replace h := bnd h
  obtain ⟨a, ha, h⟩ := h
  replace h := bnd h
  obtain ⟨T, hT, h⟩ := h
  replace h := bnd h
  obtain ⟨E, hE, h⟩ := h
  obtain rfl := oi h
  exact s_if (X ha) (ih _ _ hT) (ih _ _ hE)
 | While c b o pos =>
  replace h := itn h
  obtain ⟨ho, h⟩ := h
  replace h := bnd h
  obtain ⟨a, ha, h⟩ := h
  replace h := bnd h
  obtain ⟨B, hB, h⟩ := h
  replace h := its h
  obtain ⟨_, h⟩ := h
  obtain rfl := oi h
  rw [show o = [] by simpa using ho]
  exact s_while (X ha) (ih _ _ hB)
 | For t it b o pos =>
  replace h := itn h
  obtain ⟨ho, h⟩ := h
  replace h := bnd h
  obtain ⟨a, ha, h⟩ := h
  replace h := bnd h
  obtain ⟨q, ht, h⟩ := h
  replace h := bnd h
  obtain ⟨B, hB, h⟩ := h
  obtain rfl := oi h
  rw [show o = [] by simpa using ho]
  exact s_for g.han (X ha) (cX_folded ha) ht (ih _ _ hB)
 | Return e pos =>
  cases e with
  | none => exact nope h
  | some e =>
   replace h := bnd h
   obtain ⟨a, ha, h⟩ := h
   obtain rfl := oi h
   exact s_ret (X ha)
 | Assert c m pos =>
  replace h := its h
  obtain ⟨hm, h⟩ := h
  replace h := bnd h
  obtain ⟨a, ha, h⟩ := h
  replace h := its h
  obtain ⟨_, h⟩ := h
  obtain rfl := oi h
  rw [show m = none by simpa using hm]
  exact s_assert (X ha)
 | _ => exact nope h
end
theorem all_ss (g : Glob prog w G φ hb gl fn A mg mb) (sn : ∀ n, Snd prog w A G φ hb gl fn n) (hgl : cx.gl = gl) (hfn : cx.fn = fn) : ∀ (n : Nat) (b : List Stmt) (B : Ss), cSs n cx b = some B → SBs prog w A G φ F hb cx env b B := by
 intro n
 induction n using Nat.strongRecOn with
 | ind n ih =>
  intro b B h
  cases n with
  | zero => exact nope h
  | succ n =>
   cases b with
   | nil => obtain rfl := oi h; exact b_nil
   | cons st b =>
    replace h := bnd h
    obtain ⟨S, hS, h⟩ := h
    replace h := bnd h
    obtain ⟨B', hB, h⟩ := h
    obtain rfl := oi h
    refine b_cons ?_ (ih n (Nat.lt_succ_self n) b B' hB)
    cases n with
    | zero => exact nope hS
    | succ n => exact step_s g sn hgl hfn hS fun b B h => ih n (Nat.lt_trans (Nat.lt_succ_self n) (Nat.lt_succ_self _)) b B h
end
end Rs.Internal
end
section
set_option tactic.hygienic false
open PySem PySem.Calls PyProof.Rows PySem.SeqAt PySem.Builtin.Str
namespace Rs.Internal
theorem Glob.lift {prog : Program} {w : World} {G : Gl} {φ : Nat → List PV → Option PV} {hb h : Heap} {gl fn : List Str} {A : Around} {mg mb : Str → Option Value} (g : Glob prog w G φ hb gl fn A mg mb) (k : Above hb h) : Glob prog w G φ h gl fn A mg mb where
 han := g.han
 units := g.units
 ns := g.ns.at' fun o e => k _ o e
 bi := g.bi.at' fun o e => k _ o e
 boot := g.boot
 const := g.const
 fns := fun i x hx => by
  refine cps fun PP kk => ?_
  obtain ⟨f, o, fd, h1, h2, h3, h4⟩ := g.fns i x hx
  refine kk ?_
  clear kk PP
  exact ⟨f, o, fd, h1, k _ _ h2, h3, fun O s args vs p hab ht al hr hp => h4 O s args vs p (k.trans hab) ht al hr hp⟩
 free := g.free
theorem bindL_val {kindOf : Str → Option NameKind} : ∀ {ps : List Str} {vs : List Value} {m : Str → Option Value} {x : Str}, (x ∉ ps → bindL kindOf (ps.zip vs) m x = m x)
 | [], z1, z2, z3, z4 => rfl
 | z1 :: z2, [], z3, z4, z5 => rfl
 | p :: ps, v :: vs, m, x, hx => by
  show bindL kindOf (ps.zip vs) _ x = m x
  rw [bindL_val (fun h => hx (List.mem_cons_of_mem _ h))]
  have hne : ¬ x = p := fun e => hx (by simp [e])
  split
  ·simp [hne]
  ·rfl
theorem bindC_val {kindOf : Str → Option NameKind} : ∀ {ps : List Str} {vs : List Value} {m : Str → Option Value} {x : Str}, (x ∉ ps → bindC kindOf (ps.zip vs) m x = m x)
 | [], z1, z2, z3, z4 => rfl
 | z1 :: z2, [], z3, z4, z5 => rfl
 | p :: ps, v :: vs, m, x, hx => by
  show bindC kindOf (ps.zip vs) _ x = m x
  rw [bindC_val (fun h => hx (List.mem_cons_of_mem _ h))]
  have hne : ¬ x = p := fun e => hx (by simp [e])
  split
  ·rfl
  ·simp [hne]
theorem bindL_at {kindOf : Str → Option NameKind} : ∀ {ps : List Str} {vs : List Value} {m : Str → Option Value} {i : Nat} {x : Str} {v : Value}, ps.Nodup → ps[i]? = some x → vs[i]? = some v → kindOf x = some .local → bindL kindOf (ps.zip vs) m x = some v
 | [], z1, z2, z3, z4, z5, z6, h, z7, z8 => by simp at h
 | z1 :: z2, [], z3, z4, z5, z6, z7, z8, h, z9 => by simp at h
 | p :: ps, u :: vs, m, 0, x, v, hn, hx, hv, hk => by
  simp at hx hv; subst hx; subst hv
  show bindL kindOf (ps.zip vs) _ p = some u
  rw [bindL_val (List.nodup_cons.mp hn).1, if_pos hk]
  simp
 | p :: ps, u :: vs, m, i + 1, x, v, hn, hx, hv, hk => by
  show bindL kindOf (ps.zip vs) _ x = some v
  exact bindL_at (List.nodup_cons.mp hn).2 (by simpa using hx) (by simpa using hv) hk
theorem bindC_at {kindOf : Str → Option NameKind} : ∀ {ps : List Str} {vs : List Value} {m : Str → Option Value} {i : Nat} {x : Str} {v : Value}, ps.Nodup → ps[i]? = some x → vs[i]? = some v → kindOf x ≠ some .local → bindC kindOf (ps.zip vs) m x = some v
 | [], z1, z2, z3, z4, z5, z6, h, z7, z8 => by simp at h
 | z1 :: z2, [], z3, z4, z5, z6, z7, z8, h, z9 => by simp at h
 | p :: ps, u :: vs, m, 0, x, v, hn, hx, hv, hk => by
  simp at hx hv; subst hx; subst hv
  show bindC kindOf (ps.zip vs) _ p = some u
  rw [bindC_val (List.nodup_cons.mp hn).1, if_neg hk]
  simp
 | p :: ps, u :: vs, m, i + 1, x, v, hn, hx, hv, hk => by
  show bindC kindOf (ps.zip vs) _ x = some v
  exact bindC_at (List.nodup_cons.mp hn).2 (by simpa using hx) (by simpa using hv) hk
theorem cellsFrom_keep : ∀ {names : List (Str × NameKind)} {n : Nat} {acc : List (Str × Addr)}, ∀ z ∈ acc, z ∈ cellsFrom n names acc
 | [], z1, z2, z3, h => h
 | (x, k) :: r, n, acc, z, h => by
  unfold cellsFrom
  split
  ·exact cellsFrom_keep z (by simp [h])
  ·exact cellsFrom_keep z h
theorem cellsFrom_has : ∀ {names : List (Str × NameKind)} {n : Nat} {acc : List (Str × Addr)} {x : Str}, (x, .cell) ∈ names → ∃ c, (x, c) ∈ cellsFrom n names acc
 | (y, k) :: r, n, acc, x, h => by
  unfold cellsFrom
  rcases List.mem_cons.mp h with e | h
  ·cases e
   rw [if_pos (by rfl)]
   exact ⟨n, cellsFrom_keep _ (by simp)⟩
  ·split
   ·exact cellsFrom_has h
   ·exact cellsFrom_has h
theorem cellsFrom_nodup : ∀ {names : List (Str × NameKind)} {n : Nat} {acc : List (Str × Addr)}, (names.map (·.1)).Nodup → (acc.map (·.1)).Nodup → (∀ z ∈ acc, z.1 ∉ names.map (·.1)) → ((cellsFrom n names acc).map (·.1)).Nodup
 | [], z1, z2, z3, h, z4 => h
 | (x, k) :: r, n, acc, hn, ha, hd => by
  have hn' := List.nodup_cons.mp hn
  unfold cellsFrom
  split
  ·refine cellsFrom_nodup hn'.2 (List.nodup_cons.mpr ⟨fun m => ?_, ha⟩) fun z m => ?_
   ·obtain ⟨z, hz, e⟩ := List.mem_map.mp m
    exact hd z hz (by simp [e])
   ·rcases List.mem_cons.mp m with rfl | m
    ·exact hn'.1
    ·exact fun q => hd z m (by simp only [List.map_cons, List.mem_cons]; exact .inr q)
  ·exact cellsFrom_nodup hn'.2 ha fun z m q => hd z m (by simp only [List.map_cons, List.mem_cons]; exact .inr q)
end Rs.Internal
end
section
set_option tactic.hygienic false
open PySem PySem.Calls PyProof.Rows PySem.SeqAt PySem.Builtin.Str
namespace Rs.Internal
structure DefAt (h : Heap) (f : Addr) (ps : List Str) (sc : Scope) (body : List Stmt) : Prop where
 obj : ∃ o fd, h.get? f = some o ∧ o.data = .func fd ∧ fd.scope = sc ∧ fd.body = .stmts body ∧ fd.globals = mainGlobals ∧ fd.builtins = builtinsNs ∧ fd.closure = [] ∧ h.CodeRec fd.code fd.qualname ∧
  ∀ vals : List Value, vals.length = ps.length → bindArgs fd ⟨vals, []⟩ = pure (ps.zip vals)
structure DScOk (sc : Scope) (ps : List Str) : Prop where
 kind : sc.kind = .function
 gen : sc.isGenerator = false
 co : sc.isCoroutine = false
 nodup : (sc.names.map (·.1)).Nodup
 pnodup : ps.Nodup
 nofree : ∀ x ∈ sc.names, x.2 ≠ .free
 dbg : ∀ x ∈ sc.names, (x.1 == ("__debug__" : Str)) = false
 par : ∀ p ∈ ps, sc.names.lookup p = some .local ∨ sc.names.lookup p = some .cell
theorem defScopeOk_iff {sc : Scope} {ps : List Str} (h : defScopeOk sc ps = true) : DScOk sc ps := by
 unfold defScopeOk at h
 simp only [Bool.and_eq_true, beq_iff_eq, Bool.not_eq_true', decide_eq_true_eq, List.all_eq_true, bne_iff_ne, ne_eq, Bool.or_eq_true] at h
 obtain ⟨⟨⟨⟨⟨⟨h1, h2⟩, h3⟩, h4⟩, h5⟩, h6⟩, h7⟩ := h
 exact ⟨h1, h2, h3, h4, h5, fun x hx => (h6 x hx).1, fun x hx => by simpa using (h6 x hx).2, h7⟩
theorem slotNames_nodup {sc : Scope} {ps : List Str} (d : DScOk sc ps) : (slotNames ps sc).Nodup := by
 unfold slotNames
 rw [List.nodup_append]
 refine ⟨d.pnodup, List.Nodup.sublist (List.Sublist.map _ List.filter_sublist) d.nodup, fun x hx y hy e => ?_⟩
 subst e
 obtain ⟨z, hz, e⟩ := List.mem_map.mp hy
 replace hz := List.mem_filter.mp hz
 obtain ⟨_, hz⟩ := hz
 simp only [Bool.and_eq_true, Bool.not_eq_true', List.contains_eq_mem, decide_eq_false_iff_not] at hz
 exact hz.2 (e ▸ hx)
section
variable {prog : Program} {w : World} {A : Around} {G : Gl} {φ : Nat → List PV → Option PV} {F : Nat} {hb : Heap} {gl fn : List Str} {mg mb : Str → Option Value}
set_option tactic.hygienic true in
theorem fn_sound (hroom : A.depth < recursionLimit) (hlim : hb.NoLimit) (g : ∀ env, Glob prog w G φ hb gl fn (A.deeper env) mg mb) (hL : ∀ env (h : Heap), Above hb h → Left prog w (A.deeper env) G h gl fn mg mb)
  {f : Addr} {ps : List Str} {sc : Scope} {body : List Stmt} {own : List Str} {B : Ss} {k : Nat} (D : DefAt hb f ps sc body) (d : DScOk sc ps) (hc : cSs k { kind := sc.names, nm := slotNames ps sc, own := own, gl := gl, fn := fn } body = some B)
  (O : List Addr) (s : Shared) (args : List PV) (vs : List Value) (p : PV) (hab : Above hb s.heap) (ht : 1 ≤ s.toks) (al : Alive O s.heap) (hr : RelL O s.heap args vs)
  (hv : runFn G φ F { np := ps.length, ns := (slotNames ps sc).length, body := B } args = some p) : Ev0 prog w A O (call (.ref f) vs) p s := by
 obtain ⟨o, fd, h1, h2, h3, h4, h5, h6, h7, h8, h9⟩ := D.obj
 subst h3
 replace hv := itp hv
 obtain ⟨hnp, hv⟩ := hv
 ·replace hnp : args.length = ps.length := hnp
  have hlen : vs.length = ps.length := by rw [← hr.length]; exact hnp
  replace hv := bnd hv
  obtain ⟨⟨fl, σ'⟩, hex, hv⟩ := hv
  cases fl with
  | nx => exact nope hv
  | rt q =>
   obtain rfl := oi hv
   unfold Ev0
   refine wpAny_call ?_
   refine codeAny_call_function hroom (hab _ _ h1) h2 d.co d.gen h4 (h8.keeps hab) ?_
   rw [h9 vs hlen, h7]
   have hcellHas : ∀ x, fd.scope.names.lookup x = some .cell → ((cellsFrom (s.heap.objs.size + 1) fd.scope.names []).lookup x).isSome = true := fun x hx => by
    obtain ⟨c, hc⟩ := cellsFrom_has (n := s.heap.objs.size + 1) (acc := []) (mem_of_lookup hx)
    obtain ⟨e, he⟩ := lookup_of_mem hc
    rw [he]; rfl
   refine wpAny_pure (wpAny_mono (wpAny_toks_of (Nat.le_refl s.toks) (wpAny_newFunctionEnv_cells (E := fun z1 z2 => False) (Q := fun env s' => env = callEnvC fd s.heap.objs.size f ∧ InCallC s env.locals (bindL env.kindOf (ps.zip vs) fun z1 => none) env.cells (bindC env.kindOf (ps.zip vs) fun z1 => none) s')
    d.kind (fun x hx => ?_) fun env he s' x => ⟨he, x⟩)) (fun env s₁ q => ?_) fun z1 z2 q => q.2.elim)
   ·rcases d.par x.1 (List.of_mem_zip hx).1 with q | q
    ·exact .inl q
    ·exact .inr ⟨q, hcellHas _ q⟩
   obtain ⟨htk, he, x⟩ := q
   refine ⟨(hlim.keeps hab).keeps x.toInCall.keep, codeAny_func ?_⟩
   have hkof : ∀ y, env.kindOf y = fd.scope.names.lookup y := fun y => by rw [he]; rfl
   have hcells : env.cells = cellsFrom (s.heap.objs.size + 1) fd.scope.names [] := by rw [he]; rfl
   have hloc : env.locals = s.heap.objs.size := by rw [he]; rfl
   have hnd : (env.cells.map (·.1)).Nodup := by rw [hcells]; exact cellsFrom_nodup d.nodup List.nodup_nil (fun z1 m => nomatch m)
   have ab : Above s.heap s₁.heap := x.toInCall.keep
   obtain ⟨hs', tk', es⟩ := x.toInCall.same
   have hcl : ∀ z ∈ env.cells, env.cells.lookup z.1 = some z.2 := fun z hz => lookup_of_nodup hnd hz
   let W : List Addr := env.locals :: env.cells.map (·.2)
   let cx : Cx := { kind := fd.scope.names, nm := slotNames ps fd.scope, own := own, gl := gl, fn := fn }
   have eo : EnvOk cx env := {
    kind := by rw [he]; exact d.kind
    gls := by rw [he]; exact h5
    bis := by rw [he]; exact h6
    dbg := fun y k hk => d.dbg (y, k) (mem_of_lookup hk)
    glob := fun y hy => by rw [hkof]; exact hy
    loc := fun y hy => by rw [hkof]; exact hy
    cel := fun y hy => ⟨by rw [hkof]; exact hy, by
     have := hcellHas y hy
     rw [← hcells] at this
     exact Option.isSome_iff_exists.mp this⟩
    fre := fun y hy => absurd rfl (d.nofree _ (mem_of_lookup hy)) }
   have new : ∀ a ∈ W, s.heap.get? a = none := fun a m => by
    rcases List.mem_cons.mp m with rfl | m
    ·rw [hloc]; exact Heap.get?_none_of_le (Nat.le_refl _)
    ·obtain ⟨z, hz, rfl⟩ := List.mem_map.mp m
     have := x.above z.1 z.2 hz
     rw [hloc] at this
     exact Heap.get?_none_of_le (Nat.le_of_lt this)
   have celW : ∀ y c, env.cells.lookup y = some c → c ∈ W := fun y c hc => List.mem_cons_of_mem _ (List.mem_map_of_mem (f := (·.2)) (mem_of_lookup hc))
   have alW : Alive W s₁.heap := fun a m => by
    rcases List.mem_cons.mp m with rfl | m
    ·obtain ⟨o, _, _, e, _⟩ := x.toInCall.ns; exact ⟨o, e⟩
    ·obtain ⟨z, hz, rfl⟩ := List.mem_map.mp m
     obtain ⟨o, e, _⟩ := x.cell z.1 z.2 (hcl z hz)
     exact ⟨o, e⟩
   have hrW : RelL (W ++ O) s₁.heap args vs := (RelL.wide (fun a m => (List.mem_append.mp m).elim (fun m => .inr (new a m)) .inl) _ _ hr).above ab
   have nmP : ∀ i y, i < args.length → (slotNames ps fd.scope)[i]? = some y → ps[i]? = some y := fun i y hi hy => by
    unfold slotNames at hy
    rwa [List.getElem?_append_left (by rw [← hnp]; exact hi)] at hy
   have σval : ∀ i sl, getS (args.map Slot.val ++ List.replicate ((slotNames ps fd.scope).length - ps.length) .no) i = sl → sl ≠ .no → ∃ q, args[i]? = some q ∧ sl = .val q := fun i sl h hne => by
    unfold getS at h
    by_cases hi : i < args.length
    ·rw [List.getElem?_append_left (by simpa using hi), List.getElem?_map, List.getElem?_eq_getElem hi] at h
     exact ⟨_, List.getElem?_eq_getElem hi, h.symm⟩
    ·rw [List.getElem?_append_right (by simpa using hi), List.getElem?_replicate] at h
     split at h <;> exact absurd h.symm hne
   have K : SOk s.heap O W cx env (args.map Slot.val ++ List.replicate ((slotNames ps fd.scope).length - ps.length) .no) s₁ := {
    ok := {
     eo := eo
     fw := ⟨eo.kind, slotNames_nodup d, List.mem_append_left _ (List.mem_cons_self ..), fun y c z1 hc => List.mem_append_left _ (celW y c hc), x.apart, fun y c hm e => by
      have := x.above y c hm; rw [e] at this; exact Nat.lt_irrefl _ this⟩
     rds := {
      len := by
       have : ps.length ≤ (slotNames ps fd.scope).length := by unfold slotNames; simp
       show _ = (slotNames ps fd.scope).length
       simp only [List.length_append, List.length_map, List.length_replicate, hnp]; lia
      ns := ⟨_, x.toInCall.ns⟩
      cells := fun y c hc => ⟨_, x.cell y c hc⟩
      val := fun i y q e1 e2 => by
       obtain ⟨q', ha, e⟩ := σval i _ e2 fun z => Slot.dif z rfl
       cases e
       have hi : i < args.length := (List.getElem?_eq_some_iff.mp ha).1
       have hp := nmP i y hi e1
       obtain ⟨v, hv', rv⟩ := hrW.get ha
       have hy : y ∈ ps := List.mem_of_getElem? hp
       have hdbg : (y == ("__debug__" : Str)) = false := by
        rcases d.par y hy with q | q
        ·exact d.dbg _ (mem_of_lookup q)
        ·exact d.dbg _ (mem_of_lookup q)
       refine ⟨v, ⟨hdbg, ?_⟩, rv⟩
       rcases d.par y hy with q | q
       ·have hk : env.kindOf y = some .local := by rw [hkof]; exact q
        exact .inl ⟨hk, _, x.toInCall.ns, bindL_at d.pnodup hp hv' hk⟩
       ·have hk : env.kindOf y = some .cell := by rw [hkof]; exact q
        obtain ⟨c, hc⟩ := (eo.cel y q).2
        refine .inr ⟨.inl hk, c, hc, ?_⟩
        have := x.cell y c hc
        rw [bindC_at d.pnodup hp hv' (by rw [hk]; decide)] at this
        exact this
      own := fun i y l e1 e2 => by
       obtain ⟨q', _, e⟩ := σval i _ e2 fun z => Slot.dif z rfl
       exact Slot.dif e rfl }
     al := fun a m => (List.mem_append.mp m).elim (alW a) fun m => al.above ab a m
     base := ab
     tok := Nat.le_trans ht htk }
    loc := List.mem_cons_self ..
    cel := celW
    new := new
    sep := fun a m q => by obtain ⟨o, e⟩ := al a q; rw [new a m] at e; exact nope e
    nofree := fun y hy => d.nofree _ (mem_of_lookup hy) rfl
    own := ⟨fun z1 => 0, fun i y z1 ⟨l, e⟩ => (by obtain ⟨q', _, e'⟩ := σval i _ e fun z => Slot.dif z rfl; exact Slot.dif e' rfl), fun i j ⟨l, e⟩ => (by obtain ⟨q', _, e'⟩ := σval i _ e fun z => Slot.dif z rfl; exact Slot.dif e' rfl)⟩ }
   have gg := (g env).lift hab
   have main := all_ss (F := F) (env := env) gg (snd_all gg (hL env _ hab)) (cx := cx) rfl rfl k body B hc O W _ s₁ _ _ K hex
   refine wpAny_mono main (fun fl s₂ q => ?_) fun z1 z2 q => q.elim
   obtain ⟨W', K', c', _, v, rfl, rv⟩ := q
   obtain ⟨⟨h₂, tk₂, e2, _⟩, _⟩ := c'
   refine ⟨⟨h₂, tk₂, by rw [e2, es], ?_⟩, rv⟩
   have := K'.ok.base
   rw [e2] at this
   exact this
end
end Rs.Internal
end
section
set_option tactic.hygienic false
open PySem PySem.Calls PyProof.Rows PySem.SeqAt PySem.Builtin.Str
namespace Rs.Internal
structure Base (prog : Program) (w : World) (G : Gl) (hb : Heap) (gl fn : List Str) (T : List Fn) (mg mb : Str → Option Value) : Prop where
 ns : hb.Ns mainGlobals mg
 bi : hb.Ns builtinsNs mb
 boot : ∀ x : Str, x ≠ "__name__" → mb x = bootBuiltins x
 nolimit : hb.NoLimit
 const : ∀ (i : Nat) (x : Str) (p : PV), gl[i]? = some x → G.const[i]? = some p → ∃ v, mg x = some v ∧ ∀ (O : List Addr) (h : Heap), Rel O h p v
 defs : ∀ (k : Nat) (x : Str), fn[k]? = some x → ∃ (f : Addr) (ps : List Str) (sc : Scope) (body : List Stmt) (own : List Str) (d : Nat) (B : Ss), mg x = some (.ref f) ∧ DefAt hb f ps sc body ∧ DScOk sc ps ∧
  cSs d { kind := sc.names, nm := slotNames ps sc, own := own, gl := gl, fn := fn } body = some B ∧ T[k]? = some { np := ps.length, ns := (slotNames ps sc).length, body := B }
 free : ∀ x ∈ plainNames, mg x = none
 left : ∀ (A : Around) (h : Heap), A.handled = none → A.units + 2 < cLine → Above hb h → Left prog w A G h gl fn mg mb
theorem glob_n {prog : Program} {w : World} {G : Gl} {hb : Heap} {gl fn : List Str} {T : List Fn} {mg mb : Str → Option Value} {F : Nat} (b : Base prog w G hb gl fn T mg mb) :
  ∀ (n : Nat) (A : Around), A.handled = none → A.units + 3 * n + 2 < cLine → A.depth + n ≤ recursionLimit → Glob prog w G (callN G T F n) hb gl fn A mg mb := by
 intro n
 induction n with
 | zero =>
  exact fun A hh hu hd => {
   han := hh
   units := by lia
   ns := b.ns
   bi := b.bi
   boot := b.boot
   const := b.const
   free := b.free
   fns := fun k x hx => by
    refine cps fun PP kk => ?_
    obtain ⟨f, ps, sc, body, own, d, B, h1, h2, h3, h4, h5⟩ := b.defs k x hx
    refine kk ?_
    clear kk PP
    refine cps fun PP kk => ?_
    obtain ⟨o, fd, q1, q2, _⟩ := h2.obj
    refine kk ?_
    clear kk PP
    exact ⟨f, o, fd, h1, q1, q2, fun O s args vs p hab ht al hr hp => nope hp⟩ }
 | succ n ih =>
  exact fun A hh hu hd => {
   han := hh
   units := by lia
   ns := b.ns
   bi := b.bi
   boot := b.boot
   const := b.const
   free := b.free
   fns := fun k x hx => by
    refine cps fun PP kk => ?_
    obtain ⟨f, ps, sc, body, own, d, B, h1, h2, h3, h4, h5⟩ := b.defs k x hx
    refine kk ?_
    clear kk PP
    refine cps fun PP kk => ?_
    obtain ⟨o, fd, q1, q2, _⟩ := h2.obj
    refine kk ?_
    clear kk PP
    refine ⟨f, o, fd, h1, q1, q2, fun O s args vs p hab ht al hr hp => ?_⟩
    replace hp := bnd hp
    obtain ⟨f', hf', hp⟩ := hp
    rw [← oi (h5.symm.trans hf')] at hp
    refine fn_sound (φ := callN G T F n) (F := F) (by lia) b.nolimit (fun env => ih (A.deeper env) hh (by rw [Around.deeper_units]; lia) ?_) (fun env h hk => b.left _ h hh (by rw [Around.deeper_units]; lia) hk) h2 h3 h4 O s args vs p hab ht al hr hp
    show A.depth + 1 + n ≤ recursionLimit
    lia }
end Rs.Internal
end
section
set_option tactic.hygienic false
open PySem PySem.Calls PyProof.Rows PySem.SeqAt PySem.Builtin.Str
namespace Rs.Internal
section
variable {prog : Program} {w : World} {A : Around} {G : Gl} {hb : Heap} {gl fn : List Str} {mg mb : Str → Option Value}
theorem setOf_above {h h' : Heap} {a : Addr} {S : Int → Bool} {n : Nat} (k : Above h h') (x : h.SetOf (intKind prog w) a S n) : h'.SetOf (intKind prog w) a S n := by
 obtain ⟨o, es, ep, t, ho, r⟩ := x
 exact ⟨o, es, ep, t, k _ _ ho, r⟩
theorem left_b1 {a : Addr} {S : Int → Bool} {m : Nat} (hns : hb.Ns mainGlobals mg) (hv : mg "b1_set" = some (.ref a)) (hS : hb.SetOf (intKind prog w) a S m) (hG : ∀ i, S i = G.b1 i) {cx : Cx} {env : Env} {O : List Addr} {σ : Store} {s : Shared} {e : PySem.Expr} {np pos : Pos} {i : Int}
  (ok : Ok hb cx env O σ s) (hg : isGlob cx "b1_set" = true) (h : Ev prog w A O (eval e env) (.int i) s) : SX prog w A cx env (.Compare e [.In] [.Name "b1_set" np] pos) (.const .none) O σ s (.bool (G.b1 i)) := by
 have step : ∀ {α : Type} (Q : Value → Shared → Prop) (a' : Value) (s₁ : Shared), Kp s s₁ → Rel O s₁.heap (.int i) a' → (∀ s₂, Kp s s₂ → Q (.bool (G.b1 i)) s₂) →
   wpAny (model prog w) A (eval (.Name "b1_set" np) env) (fun b s₂ => wpAny (model prog w) A (compareOp .In a' b) Q (fun z1 z2 => False) s₂) (fun z1 z2 => False) s₁ := fun {α} Q a' s₁ k₁ r₁ hQ => by
  obtain ⟨t, rfl⟩ := r₁
  refine Name_function_global ok.eo.kind (ok.eo.glob _ (isGlob_iff hg).1) (loadGlobal_global (ok.eo.gls ▸ (hns.at' fun o e => k₁.above _ o (ok.base _ o e))) hv ?_) (isGlob_iff hg).2
  refine wpAny_inSet_of (knd := intKind prog w) (k := i) (intKind_is prog w i t) rfl (setOf_above (ok.base.trans k₁.above) hS) ?_
  rw [hG]
  exact hQ _ (k₁.trans (Kp.tick s₁))
 refine ⟨wpAny_Compare1 (h.use fun a' s₁ k₁ r₁ => step (α := Nat) _ a' s₁ k₁ r₁ fun s₂ k₂ => ⟨k₂, rfl⟩) rfl, fun b hb' => ?_⟩
 obtain rfl := oi hb'
 exact wpAny_isTrue_Compare1 (h.use fun a' s₁ k₁ r₁ => step (α := Nat) _ a' s₁ k₁ r₁ fun s₂ k₂ => wpAny_truthy_bool ⟨k₂, rfl⟩) rfl
end
end Rs.Internal
end
section
set_option tactic.hygienic false
open PySem PySem.Calls PyProof.Rows PySem.SeqAt PySem.Builtin.Str
namespace Rs.Internal
section
variable {prog : Program} {w : World} {A : Around} {G : Gl} {hb : Heap} {gl fn : List Str} {mg mb : Str → Option Value}
theorem mapOf_above {h h' : Heap} {a : Addr} {f : Int → Option Value} (k : Above h h') (x : h.MapOf (intKind prog w) a f) : h'.MapOf (intKind prog w) a f := by
 refine cps fun PP kk => ?_
 obtain ⟨o, es, ep, ho, r⟩ := x
 refine kk ?_
 clear kk PP
 exact ⟨o, es, ep, k _ _ ho, r⟩
theorem left_b3 {d : Addr} {f : Int → Option Value} (hns : hb.Ns mainGlobals mg) (hv : mg "b3_exceptions" = some (.ref d)) (hS : hb.MapOf (intKind prog w) d f) (lo : (d == sysModules) = false)
  (hG : ∀ i, match f i with | some v => ∃ t tok, G.b3 i = some t ∧ v = .str ⟨t.toArray⟩ tok | none => G.b3 i = none) {cx : Cx} {env : Env} {O : List Addr} {σ : Store} {s : Shared} {e : PySem.Expr} {np apos pos : Pos} {i : Int}
  (ok : Ok hb cx env O σ s) (hline : (apos.endLine == pos.line) = true) (hg : isGlob cx "b3_exceptions" = true) (h : ∀ s', Kp s s' → Ev prog w A O (eval e env) (.int i) s') (hns' : notStar e = true) :
  Ev prog w A O (eval (.Call (.Attribute (.Name "b3_exceptions" np) "get" apos) [e] [] pos) env) (match G.b3 i with | some t => .str t | none => .none) s := by
 have hall : EvAll prog w A O env [e] [.int i] s := ⟨.int i, [], rfl, hns', h, rfl⟩
 have hD : s.heap.MapOf (intKind prog w) d f := mapOf_above ok.base hS
 refine wpAny_Call_method_lateS (base_eq rfl _) ?_ hline (Name_function_global ok.eo.kind (ok.eo.glob _ (isGlob_iff hg).1) (loadGlobal_global (ok.eo.gls ▸ (hns.at' fun o e => ok.base _ o e)) hv ?_) (isGlob_iff hg).2)
 ·rw [hall.noStar]; rfl
 ·refine ⟨"dict", "dict.get", PySem.F.plainAttrs_dict, PySem.F.slot_dict_get, PySem.F.type_dict_get, hD.typeIs, hD.noDict, ?_⟩
  refine Calls.callWith_builtin (first := [.ref d]) hall.plain (hall.args fun us s₂ k₂ r₂ => ?_)
  refine cps fun PP kk => ?_
  obtain ⟨v, ee1, ⟨t, ee2⟩⟩ := rel1 r₂
  refine kk ?_
  clear kk PP
  subst ee1
  subst ee2
  have hD₂ : s₂.heap.MapOf (intKind prog w) d f := mapOf_above k₂.above hD
  refine call_meetsIn PySem.F.slot_dict_get hD₂.typeIs PySem.F.entry_dict_get (PySem.F.args_dict_get_2 _ _) (meets_dict_get (intKind prog w) d (k := i) (intKind_is prog w i t) lo) ⟨f, hD₂, ?_⟩
  have hGi := hG i
  cases hf : f i with
  | none =>
   rw [hf] at hGi
   simp only at hGi
   rw [hGi]
   exact ⟨k₂.trans (Kp.tick s₂), rfl⟩
  | some v =>
   rw [hf] at hGi
   refine cps fun PP kk => ?_
   obtain ⟨t', tok, e1, e2⟩ := hGi
   refine kk ?_
   clear kk PP
   rw [e1]
   exact ⟨k₂.trans (Kp.tick s₂), tok, e2⟩
end
end Rs.Internal
end
section
open PySem PySem.Calls PyProof.Rows PySem.SeqAt PySem.Builtin.Str
namespace Rs.Internal
theorem inter_cons (s x y : List Nat) (r : List (List Nat)) : s.intercalate (x :: y :: r) = x ++ s ++ s.intercalate (y :: r) := by
 simp [List.intercalate, List.intersperse]
theorem join_inter (s : Str) : ∀ l : List Str, (Str.join s l).cps.toList = s.cps.toList.intercalate (l.map (·.cps.toList))
 | [] => by rfl
 | [x] => by simp [Str.join, List.intercalate, List.intersperse]
 | x :: y :: r => by
  have := join_inter s (y :: r)
  show ((x ++ s) ++ Str.join s (y :: r)).cps.toList = _
  simp only [List.map_cons] at this ⊢
  rw [Str.cps_append, Str.cps_append, Array.toList_append, Array.toList_append, this, inter_cons]
theorem replace_text (x y z : List Nat) (hy : y ≠ []) : (Txt.replace (tx x) (tx y) (tx z)).cps.toList = replL x y z := by
 have hp := parts_text x y hy
 have hyl : ((tx y).length == 0) = false := by rw [str_len]; cases y with | nil => exact absurd rfl hy | cons _ _ => rfl
 unfold Txt.replace replL
 rw [hyl, Bool.false_and, Bool.or_false]
 split
 ·rename_i he
  rw [List.isEmpty_iff] at he
  rw [he] at hp
  rw [← hp]
  have : partsBetween (tx x) [] (tx y).length = [strSub (tx x) 0 (tx x).length] := rfl
  rw [this]
  have e2 : strSub (tx x) 0 (tx x).length = tx x := StrLaws.sub_whole _
  rw [e2]
  simp [List.intercalate, List.intersperse]
 ·rw [StrLaws.glued_eq_join, join_inter, hp]
section
variable {prog : Program} {w : World} {A : Around} {G : Gl} {hb : Heap} {gl fn : List Str} {mg mb : Str → Option Value}
theorem left_repl {cx : Cx} {env : Env} {O : List Addr} {σ : Store} {s : Shared} {o : PySem.Expr} {apos pos : Pos} {a b : Str} {k1 k2 : Nat} {p1 p2 : Pos} {t : List Nat} (ok : Ok hb cx env O σ s) (hline : (apos.endLine == pos.line) = true) (hbase : baseOk o = true) (hab : a ≠ b)
  (h : Ev prog w A O (eval o env) (.str t) s) (ha : a.cps.toList ≠ []) (h1 : fitL t.length = true) (h2 : fitL ((t.length + 1) * b.cps.toList.length) = true) :
  Ev prog w A O (eval (.Call (.Attribute o "replace" apos) [.Constant (.str a) k1 p1, .Constant (.str b) k2 p2] [] pos) env) (.str (replL t a.cps.toList b.cps.toList)) s := by
 replace h1 := fitL_iff h1
 replace h2 := fitL_iff h2
 have hall : ∀ s, EvAll prog w A O env [.Constant (.str a) k1 p1, .Constant (.str b) k2 p2] [.str a.cps.toList, .str b.cps.toList] s := fun s => ⟨_, _, rfl, rfl, fun s' k => (ev_const rfl).up, _, _, rfl, rfl, fun s' k => (ev_const rfl).up, rfl⟩
 refine wpAny_Call_method_lateS (base_eq hbase _) ?_ hline (h.use fun ov s₁ kp₁ r₁ => ?_)
 ·rw [(hall s).noStar]; rfl
 ·obtain ⟨t0, rfl⟩ := r₁
  refine ⟨"str", "str.replace", PySem.F.plainAttrs_str, PySem.F.slot_str_replace, PySem.F.type_str_replace, typeIs_str _ _ _, (fun _ e => nomatch e), ?_⟩
  refine Calls.callWith_builtin (first := [_]) (hall s₁).plain ?_
  have ea : tx a.cps.toList = a := by cases a; simp [tx]
  have eb : tx b.cps.toList = b := by cases b; simp [tx]
  have hs : wpAny (model prog w) A (spliced (backTo pos (starEach [.Constant (.str a) k1 p1, .Constant (.str b) k2 p2] env))) (fun vs s' => vs = [.str a s₁.toks, .str b (s₁.toks + 1)] ∧ Kp s₁ s') (fun _ _ => False) s₁ := by
   refine args_cons ?_ (starEach_cons rfl _ _)
   rw [arm_eval_Constant]
   refine wpAny_mkText (args_cons ?_ (starEach_cons rfl _ _))
   rw [arm_eval_Constant]
   refine wpAny_mkText (spliced_nil ⟨rfl, (Kp.tick _).trans (Kp.tick _)⟩)
  rw [starEach_cons rfl] at hs ⊢
  refine Calls.evalArgs_plain (wpAny_mono hs (fun vs s₂ q => ?_) fun _ _ f => f)
  obtain ⟨rfl, kp₂⟩ := q
  have ht := Nat.le_trans ok.tok kp₁.2
  have hr := replace_text t a.cps.toList b.cps.toList ha
  rw [ea, eb] at hr
  have hlen : (⟨t.toArray⟩ : Str).length + ((⟨t.toArray⟩ : Str).length + 1) * b.length ≤ 16777216 := by
   rw [str_len, show b.length = b.cps.toList.length by simp [Str.length]]; lia
  exact (show Ev0 prog w A O (call (.builtin "str.replace") [.str ⟨t.toArray⟩ t0, .str a s₁.toks, .str b (s₁.toks + 1)]) (.str (replL t a.cps.toList b.cps.toList)) s₂ from
   SC.replace (Nat.ne_of_gt ht) (Nat.succ_ne_zero _) (Nat.ne_of_lt (Nat.lt_succ_self _)) (by simpa using hab) hlen fun t' k => ⟨Kp0.toks s₂ k, rel_str' _ _ hr⟩).use fun v s₃ k₃ r₃ => ⟨(kp₁.trans kp₂).trans k₃, r₃⟩
end
end Rs.Internal
end
section
set_option tactic.hygienic false
open PySem PySem.Calls PyProof.Rows PySem.SeqAt PySem.Builtin.Str
namespace Rs.Internal
section
variable {prog : Program} {w : World} {K : Type} [DecidableEq K] {knd : KeyKind prog w K} {A : Around} {E : Value → Shared → Prop} {s : Shared}
theorem wpAny_dictPut {d : Addr} {kvs : List (K × Value)} {k : K} {key v : Value} {Q : Unit → Shared → Prop} (hkey : knd.is k key = true) (hm : s.heap.DictOf knd d kvs) (hnot : k ∉ kvs.map (·.1))
  (hQ : ∀ h', h'.DictOf knd d (kvs ++ [(k, v)]) → Heap.SameBut d s.heap h' → Q () { s with heap := h' }) (hsz : kvs.length ≤ sizeLine) :
  wpAny (model prog w) A (dictPut d (knd.hash k) key v) Q E s := by
 refine cps fun PP kk => ?_
 obtain ⟨o, es, ep, ho, hc, hd, hk, hp, hn⟩ := hm
 refine kk ?_
 clear kk PP
 have hes : es.size ≤ sizeLine := by
  have e1 := hp.length
  have e2 : es.toList.length = es.size := Array.length_toList
  lia
 unfold dictPut
 refine wpAny_bind (wpAny_dictFind_of hkey ho hd hk ?_)
 have hidx : (es.findIdx? fun e => knd.is k e.key) = kvs.findIdx? fun kv => decide (kv.1 = k) := by
  rw [← hp.findIdx k]; obtain ⟨l⟩ := es; simp
 cases hi : es.findIdx? fun e => knd.is k e.key with
 | some i =>
  obtain ⟨kv, hkv, he⟩ := List.any_eq_true.mp (any_of_findIdx_some (hidx ▸ hi))
  exact absurd (List.mem_map.mpr ⟨kv, hkv, of_decide_eq_true he⟩) hnot
 | none =>
  refine (wpAny_updateDictKeys (hz := hes) ho hd (hQ _ ⟨_, _, ep + 1, Heap.get?_update_self _ ho (Obj.isFreed_of_dict (Obj.data_mapDictKeys hd _)),
   hc.mapDictKeys _, Obj.data_mapDictKeys hd _, hk.push hkey _, ?_, ?_⟩ (Heap.SameBut.update ..)))
  ·have := hp.append hkey (knd.hash k) v
   obtain ⟨l⟩ := es
   simpa using this
  ·rw [List.map_append, List.nodup_append]
   refine ⟨hn, by simp, ?_⟩
   intro a ha b hb
   simp only [List.map_cons, List.map_nil, List.mem_singleton] at hb
   subst hb
   exact fun e => hnot (e ▸ ha)
theorem rng_cons {x i n : Nat} {rest : List Nat} (h : x :: rest = List.range' i (n - i)) : i < n ∧ x = i ∧ rest = List.range' (i + 1) (n - (i + 1)) := by
 cases e : n - i with
 | zero => rw [e] at h; cases h
 | succ m =>
  rw [e, List.range'_succ] at h
  injection h with h1 h2
  rw [Nat.sub_add_eq, e]
  exact ⟨Nat.sub_pos_iff_lt.mp (by rw [e]; exact Nat.succ_pos m), h1, h2⟩
theorem rng_nil {i n : Nat} (h : [] = List.range' i (n - i)) (hi : i ≤ n) : i = n := by
 cases e : n - i with
 | zero => exact Nat.le_antisymm hi (Nat.sub_eq_zero_iff_le.mp e)
 | succ m => rw [e, List.range'_succ] at h; cases h
theorem more_at {es : Array DictEntry} {kvs more : List (K × Value)} {x : Nat} (hpo : PySem.Pairs knd es.toList more) (hko : PySem.KeysOf knd es) (hlt : x < es.size) (hlen : more.length = es.size) (hnd : ((kvs ++ more).map (·.1)).Nodup) :
  ∃ k v, knd.is k es[x].key = true ∧ es[x].hash = knd.hash k ∧ es[x].val = v ∧ k ∉ (kvs ++ more.take x).map (·.1) ∧ kvs ++ more.take (x + 1) = (kvs ++ more.take x) ++ [(k, v)] := by
 obtain ⟨kv, hkv⟩ : ∃ kv, more[x]? = some kv := ⟨more[x]'(by rw [hlen]; exact hlt), List.getElem?_eq_getElem _⟩
 obtain ⟨hkey, hval⟩ := hpo.get? (e := es[x]) (by simp [hlt]) hkv
 obtain ⟨k', hkey', hhash⟩ := hko es[x] (Array.getElem_mem hlt)
 obtain rfl : k' = kv.1 := knd.inj _ _ _ hkey' hkey
 have htk : more.take (x + 1) = more.take x ++ [kv] := by rw [List.take_add_one, hkv]; rfl
 refine ⟨kv.1, kv.2, hkey, hhash, hval, fun hm => ?_, by rw [htk, ← List.append_assoc]⟩
 have e : ((kvs ++ more.take (x + 1)).map (·.1)).Nodup := by
  refine List.Sublist.nodup ?_ hnd
  exact List.Sublist.map _ (List.Sublist.append (List.Sublist.refl _) (List.take_sublist _ _))
 rw [htk, ← List.append_assoc, List.map_append, List.nodup_append] at e
 exact e.2.2 _ hm kv.1 (by simp) rfl
theorem wpAny_merge {d o : Addr} {kvs more : List (K × Value)} {Q : Unit → Shared → Prop} (hdo : d ≠ o) (hoS : (o == sysModules) = false) (hne : kvs ≠ [])
  (hd : s.heap.DictOf knd d kvs) (ho : s.heap.DictOf knd o more) (hnd : ((kvs ++ more).map (·.1)).Nodup)
  (hQ : ∀ h', h'.DictOf knd d (kvs ++ more) → Heap.SameBut d s.heap h' → Q () { s with heap := h' }) (hsz : kvs.length + more.length ≤ sizeLine) :
  wpAny (model prog w) A (mergeMapping d (.ref o) false) Q E s := by
 refine cps fun PP kk => ?_
 obtain ⟨od, esd, epd, hod, hcd, hdd, hkd, hpd, hndd⟩ := id hd
 refine kk ?_
 clear kk PP
 refine cps fun PP kk => ?_
 obtain ⟨oo, eso, epo, hoo, hco, hdo', hko, hpo, hno⟩ := id ho
 refine kk ?_
 clear kk PP
 have hlen : more.length = eso.size := by rw [← hpo.length]; simp
 have hlend : kvs.length = esd.size := by rw [← hpd.length]; simp
 have hT : s.TypeIs (.ref o) "dict" := ⟨oo, hoo, hco.1⟩
 unfold mergeMapping
 refine wpAny_bind (wpAny_isInstance hT PySem.F.sub_dict_dict ?_)
 rw [if_pos rfl]
 refine wpAny_bind (wpAny_specialOf hT PySem.F.slot_dict_iter.lookup ?_)
 refine wpAny_bind (wpAny_pure ?_)
 have hb : (some (Value.builtin "dict.__iter__") == some (Value.builtin "dict.__iter__")) = true := by decide
 rw [hb]
 dsimp only
 rw [if_neg (by rw [hoS]; exact Bool.false_ne_true)]
 refine wpAny_bind (wpAny_dictEntries hod hdd ?_)
 have he : esd.isEmpty = false := by
  have : esd.size ≠ 0 := by rw [← hlend]; exact fun e => hne (List.length_eq_zero_iff.mp e)
  cases h : esd.isEmpty with
  | false => rfl
  | true => exact absurd (by simpa using h) this
 rw [if_neg (by rw [he]; exact Bool.false_ne_true)]
 refine wpAny_bind (wpAny_dictEntries hoo hdo' ?_)
 refine wpAny_bind (wpAny_dictEpoch hoo hdo' ?_)
 rw [List.range_eq_range']
 refine wpAny_bind ?_
 refine wpAny_forIn_list _
   (fun rest z1 s' => ∃ h' i, s' = { s with heap := h' } ∧ rest = List.range' i (eso.size - i) ∧ i ≤ eso.size ∧ h'.DictOf knd d (kvs ++ more.take i) ∧ h'.get? o = some oo ∧ Heap.SameBut d s.heap h')
   _ ?_ ?_ _ _ ?_
 ·rintro x rest b s' ⟨h', i, rfl, hr, hi, hd', hoo', hs'⟩
  obtain ⟨hlt, rfl, hrest⟩ := rng_cons hr
  refine wpAny_bind (wpAny_dictEntries hoo' hdo' ?_)
  rw [Array.getElem?_eq_getElem hlt]
  refine cps fun PP kk => ?_
  obtain ⟨k', v, hkey, hhash, hval, hnot, htk⟩ := more_at hpo hko hlt hlen hnd
  refine kk ?_
  clear kk PP
  dsimp only
  refine wpAny_bind (wpAny_holding ?_)
  rw [if_neg Bool.false_ne_true, hhash, hval]
  refine wpAny_dictPut hkey hd' hnot (fun h'' hd'' hs'' => ?_) (by rw [List.length_append, List.length_take]; lia)
  have hoo'' : h''.get? o = some oo := (hs''.2 o (Ne.symm hdo)).trans hoo'
  refine wpAny_bind (wpAny_dictEpoch hoo'' hdo' ?_)
  rw [if_neg (by simp)]
  exact wpAny_pure ⟨h'', x + 1, rfl, hrest, hlt, by rw [htk]; exact hd'', hoo'', hs'.trans hs''⟩
 ·rintro b s' ⟨h', i, rfl, hr, hi, hd', hoo', hs'⟩
  obtain rfl := rng_nil hr hi
  rw [← hlen, List.take_length] at hd'
  exact wpAny_pure (hQ h' hd' hs')
 ·exact ⟨s.heap, 0, rfl, by rw [Nat.sub_zero], Nat.zero_le _, by simpa using hd, hoo, Heap.SameBut.refl _ _⟩
end
end Rs.Internal
end
section
set_option tactic.hygienic false
open PySem PySem.Calls PyProof.Rows PySem.SeqAt PySem.Builtin.Str
namespace Rs.Internal
noncomputable def LV : List (Int × Str) → List (Int × Value) → Prop
 | [], q => q = []
 | (k, t) :: r, q => ∃ tok q', q = (k, .str t tok) :: q' ∧ LV r q'
theorem LV.keys : ∀ {l : List (Int × Str)} {q : List (Int × Value)}, LV l q → q.map (·.1) = l.map (·.1)
 | [], z1, h => by rw [show _ = [] from h]; rfl
 | (k, t) :: r, q, hh => by
  refine cps fun PP kk => ?_
  obtain ⟨tok, q', e, h⟩ := hh
  refine kk ?_
  clear kk PP
  rw [e]; simp [LV.keys h]
theorem LV.len {l : List (Int × Str)} {q : List (Int × Value)} (h : LV l q) : q.length = l.length := by have := congrArg List.length h.keys; simpa using this
theorem LV.append : ∀ {l m : List (Int × Str)} {q r : List (Int × Value)}, LV l q → LV m r → LV (l ++ m) (q ++ r)
 | [], m, q, r, h, h' => by rw [show q = [] from h]; exact h'
 | (k, t) :: l, m, q, r, hh, h' => by
  obtain ⟨tok, q', e, h⟩ := hh
  rw [e]; exact ⟨tok, _, rfl, LV.append h h'⟩
theorem LV.val : ∀ {l : List (Int × Str)} {q : List (Int × Value)}, LV l q → ∀ k, match valueAt q k with | some v => ∃ t tok, (l.find? fun x => x.1 = k).map (·.2) = some t ∧ v = .str t tok | none => (l.find? fun x => x.1 = k).map (·.2) = none
 | [], q, h, k => by rw [show q = [] from h]; simp [valueAt]
 | (k', t) :: r, q, hh, k => by
  refine cps fun PP kk => ?_
  obtain ⟨tok, q', e, h⟩ := hh
  refine kk ?_
  clear kk PP
  rw [e]
  by_cases hk : k' = k
  ·simp only [valueAt, List.find?_cons, hk, decide_true, Option.map_some]
   exact ⟨t, tok, rfl, rfl⟩
  ·have := LV.val h k
   simpa [valueAt, List.find?_cons, hk] using this
section
variable {prog : Program} {w : World} {A : Around} {E : Value → Shared → Prop} {s : Shared}
noncomputable def LP (prog : Program) (w : World) (A : Around) : List (Sem Value × Sem Value) → List (Int × Str) → Prop
 | [], l => l = []
 | p :: r, l => ∃ k t l', l = (k, t) :: l' ∧ (∀ (Q : Value → Shared → Prop) (E : Value → Shared → Prop) (s : Shared), (∀ u, Q (.int k u) { s with toks := s.toks + 1 }) → wpAny (model prog w) A p.1 Q E s) ∧
   (∀ (Q : Value → Shared → Prop) (E : Value → Shared → Prop) (s : Shared), (∀ u, Q (.str t u) { s with toks := s.toks + 1 }) → wpAny (model prog w) A p.2 Q E s) ∧ LP prog w A r l'
theorem LP.len : ∀ {ps : List (Sem Value × Sem Value)} {l : List (Int × Str)}, LP prog w A ps l → ps.length = l.length := by
 intro ps
 induction ps with
 | nil =>
  intro l h
  rw [show l = [] from h]; rfl
 | cons z1 z2 ih__ =>
  intro _ hh
  refine cps fun PP kk => ?_
  obtain ⟨_, _, _, e, _, _, h⟩ := hh
  refine kk ?_
  clear kk PP
  rw [e]; simp [ih__ h]
theorem LP.take : ∀ {ps : List (Sem Value × Sem Value)} {l : List (Int × Str)} (n : Nat), LP prog w A ps l → LP prog w A (ps.take n) (l.take n)
 | [], l, n, h => by rw [show l = [] from h, List.take_nil, List.take_nil]; exact rfl
 | z1 :: z2, z3, 0, z4 => rfl
 | z1 :: z2, z3, n + 1, hh => by
  refine cps fun PP kk => ?_
  obtain ⟨_, _, _, e, a, b, h⟩ := hh
  refine kk ?_
  clear kk PP
  rw [e]; exact ⟨_, _, _, rfl, a, b, LP.take n h⟩
theorem LP.drop : ∀ {ps : List (Sem Value × Sem Value)} {l : List (Int × Str)} (n : Nat), LP prog w A ps l → LP prog w A (ps.drop n) (l.drop n)
 | [], l, n, h => by rw [show l = [] from h, List.drop_nil, List.drop_nil]; exact rfl
 | z1 :: z2, z3, 0, h => by simpa using h
 | z1 :: z2, z3, n + 1, hh => by
  refine cps fun PP kk => ?_
  obtain ⟨_, _, _, e, a, b, h⟩ := hh
  refine kk ?_
  clear kk PP
  rw [e]; exact LP.drop n h
theorem stored_fresh {K : Type} [DecidableEq K] {kvs : List (K × Value)} {k : K} {v : Value} (h : k ∉ kvs.map (·.1)) : stored kvs k v = kvs ++ [(k, v)] := by
 rw [stored, if_neg]
 rw [List.any_eq_true]; rintro ⟨kv, hkv, he⟩
 exact h (List.mem_map.mpr ⟨kv, hkv, of_decide_eq_true he⟩)
noncomputable def SubPost (prog : Program) (w : World) (s : Shared) (l : List (Int × Str)) (d : Addr) (s' : Shared) : Prop :=
 d = s.heap.objs.size ∧ ∃ h' tk kvs, s' = { s with heap := h', toks := tk } ∧ h'.DictOf (intKind prog w) d kvs ∧ LV l kvs ∧ (∀ b o, s.heap.get? b = some o → h'.get? b = some o) ∧ s.heap.objs.size ≤ h'.objs.size
theorem sub_long : ∀ (ps : List (Sem Value × Sem Value)) (l : List (Int × Str)) (done : List (Int × Str)) (kvs : List (Int × Value)) (d : Addr) (s : Shared) (Q : PUnit → Shared → Prop), LP prog w A ps l → s.heap.DictOf (intKind prog w) d kvs → LV done kvs → ((done ++ l).map (·.1)).Nodup → done.length + l.length ≤ sizeLine →
  (∀ h' tk kvs', h'.DictOf (intKind prog w) d kvs' → LV (done ++ l) kvs' → Heap.SameBut d s.heap h' → Q PUnit.unit { s with heap := h', toks := tk }) →
  wpAny (model prog w) A (forIn ps PUnit.unit fun (x : Sem Value × Sem Value) (z1 : PUnit) => (do
   let kv ← x.1
   let vv ← holding [kv] x.2
   holding [kv, vv] (dictSet d kv vv)
   pure (ForInStep.yield PUnit.unit) : Sem (ForInStep PUnit))) Q E s := by
 intro ps
 induction ps with
 | nil =>
  intro l done kvs d s Q h hd hv hn hz hQ
  rw [show l = [] from h] at *
  rw [List.forIn_nil]
  rw [List.append_nil] at hQ
  exact wpAny_pure (hQ s.heap s.toks kvs hd hv (Heap.SameBut.refl _ _))
 | cons p ps ih__ =>
  intro l done kvs d s Q hh hd hv hn hz hQ
  refine cps fun PP kk => ?_
  obtain ⟨k, t, l', e, hk, ht, h⟩ := hh
  refine kk ?_
  clear kk PP
  subst e
  rw [List.length_cons] at hz
  rw [List.forIn_cons]
  have hnot : k ∉ kvs.map (·.1) := by
   rw [hv.keys]
   intro hm
   rw [List.map_append, List.nodup_append] at hn
   exact hn.2.2 k hm k (by simp) rfl
  refine wpAny_bind (wpAny_bind (hk _ _ _ fun u => wpAny_bind (wpAny_holding (ht _ _ _ fun u' => ?_))))
  refine wpAny_bind (wpAny_holding (wpAny_dictSet_pairs (knd := intKind prog w) (k := k) (hsz := by rw [hv.len]; lia) (intKind_is prog w k u) hd fun h₁ hm₁ hs₁ => ?_))
  rw [stored_fresh hnot] at hm₁
  refine wpAny_pure ?_
  refine ih__ l' (done ++ [(k, t)]) _ d _ Q h hm₁ (hv.append ⟨u', [], rfl, rfl⟩) (by simpa using hn) (by simp; lia) fun h' tk kvs' q1 q2 q3 => ?_
  exact hQ h' tk kvs' q1 (by simpa using q2) (hs₁.trans q3)
theorem sub_eval : ∀ (ps : List (Sem Value × Sem Value)) (l : List (Int × Str)) (s : Shared) (Q : List (Value × Value) → Shared → Prop), LP prog w A ps l →
  (∀ vs kvs tk, Carries (intKind prog w) vs kvs → LV l kvs → Q vs { s with toks := tk }) → wpAny (model prog w) A (evalPairs ps) Q E s := by
 intro ps
 induction ps with
 | nil =>
  intro l s Q h hQ
  rw [show l = [] from h] at hQ
  exact evalPairs_nil (hQ [] [] s.toks trivial rfl)
 | cons p ps ih__ =>
  intro l s Q hh hQ
  obtain ⟨k, t, l', e, hk, ht, h⟩ := hh
  subst e
  refine evalPairs_cons (hk _ _ _ fun u => ht _ _ _ fun u' => ih__ l' _ _ h fun vs kvs tk hc hv => ?_)
  exact hQ _ ((k, .str t u') :: kvs) tk ⟨intKind_is prog w k u, rfl, hc⟩ ⟨u', kvs, rfl, hv⟩
theorem sub_lits {ps : List (Sem Value × Sem Value)} {l : List (Int × Str)} {Q : Addr → Shared → Prop} (h : LP prog w A ps l) (hn : (l.map (·.1)).Nodup) (hz : l.length ≤ sizeLine)
  (hQ : ∀ d s', SubPost prog w s l d s' → Q d s') : wpAny (model prog w) A (subDict ps) Q E s := by
 by_cases hl : ps.length ≤ 15
 ·refine wpAny_subDict (knd := intKind prog w) hl (sub_eval ps l _ _ h fun vs kvs tk hc hv => ⟨kvs, hc, Heap.DictOf.new _, fun h' hd hs => hQ _ _ ⟨rfl, h', _, _, rfl, hd, ?_, ?_, ?_⟩⟩)
  ·rw [merged_nil_of_nodup kvs (by rw [hv.keys]; exact hn)]; exact hv
  ·intro b o e
   exact (hs.2 b (Nat.ne_of_lt (Heap.lt_size e))).trans (Heap.get?_push_of_some _ e)
  ·rw [hs.1, Heap.size_push]; exact Nat.le_succ _
 ·unfold subDict
  refine wpAny_bind (wpAny_alloc (wpAny_bind (wpAny_holding ?_)))
  rw [if_neg hl]
  refine wpAny_bind (wpAny_rule ?_)
  refine wpAny_bind (sub_long ps l [] [] s.heap.objs.size _ _ h (Heap.DictOf.new _) rfl (by simpa using hn) (by simpa using hz) fun h' tk kvs' q1 q2 q3 => wpAny_pure (wpAny_pure (hQ _ _ ⟨rfl, h', tk, kvs', rfl, q1, by simpa using q2, ?_, ?_⟩)))
  ·intro b o e
   exact (q3.2 b (Nat.ne_of_lt (Heap.lt_size e))).trans (Heap.get?_push_of_some _ e)
  ·rw [q3.1, Heap.size_push]; exact Nat.le_succ _
end
end Rs.Internal
end
section
set_option tactic.hygienic false
open PySem PySem.Calls PyProof.Rows PySem.SeqAt PySem.Builtin.Str
namespace Rs.Internal
noncomputable def flushD (run : List (Sem Value × Sem Value)) (main : Option Addr) : Sem (Option Addr) := do
 if run.isEmpty then return main
 match main with
 | none => return some (← subDict run)
 | some d =>
  let sub ← holding [.ref d] (subDict run)
  (holding [.ref d, .ref sub] (mergeMapping d (.ref sub) false)).onRaise fun x => do let _ ← holding [.ref d, x] (runValue (.builtin "proto.let_go" {}))
  return some d
theorem gather_run (f : (Option (Sem Value) × Sem Value) → (Option Addr × List (Sem Value × Sem Value)) → Sem (ForInStep (Option Addr × List (Sem Value × Sem Value)))) (main : Option Addr)
  (hf : ∀ (p : Sem Value × Sem Value) (run : List (Sem Value × Sem Value)), run.length + 1 < 17 → f (some p.1, p.2) (main, run) = pure (.yield (main, run ++ [p]))) :
  ∀ (items rest run : List (Sem Value × Sem Value)), run.length + items.length < 17 → forIn ((items ++ rest).map fun p => (some p.1, p.2)) (main, run) f = forIn (rest.map fun p => (some p.1, p.2)) (main, run ++ items) f := by
 intro items
 induction items with
 | nil =>
  intro rest run _
  simp
 | cons p items ih__ =>
  intro rest run h
  rw [List.cons_append, List.map_cons, List.forIn_cons, hf p run (by simp at h; lia), pure_bind]
  have := ih__ rest (run ++ [p]) (by simp at h ⊢; lia)
  simpa using this
section
variable {prog : Program} {w : World} {A : Around} {E : Value → Shared → Prop} {s : Shared}
noncomputable def Main (prog : Program) (w : World) (s₀ : Shared) (l : List (Int × Str)) (main : Option Addr) (s : Shared) : Prop :=
 ∃ h tk, s = { s₀ with heap := h, toks := tk } ∧ (∀ b o, s₀.heap.get? b = some o → h.get? b = some o) ∧ s₀.heap.objs.size ≤ h.objs.size ∧
  match main with
  | none => l = []
  | some d => l ≠ [] ∧ s₀.heap.objs.size ≤ d ∧ ∃ kvs, h.DictOf (intKind prog w) d kvs ∧ LV l kvs
theorem flush_ok {s₀ : Shared} {done l : List (Int × Str)} {run : List (Sem Value × Sem Value)} {main : Option Addr} {Q : Option Addr → Shared → Prop} (hM : Main prog w s₀ done main s) (h : LP prog w A run l)
  (hn : ((done ++ l).map (·.1)).Nodup) (hz : (done ++ l).length ≤ sizeLine) (hS : sysModules < s₀.heap.objs.size)
  (hQ : ∀ m s', Main prog w s₀ (done ++ l) m s' → Q m s') : wpAny (model prog w) A (flushD run main) Q E s := by
 unfold flushD
 by_cases hr : run = []
 ·subst hr
  rw [show l = [] from h, List.append_nil] at hQ
  exact wpAny_pure (hQ _ _ hM)
 have hr' : run.isEmpty = false := by cases run with | nil => exact absurd rfl hr | cons z1 z2 => rfl
 have hl0 : l ≠ [] := fun e => hr (by have := h.len; rw [e] at this; exact List.length_eq_zero_iff.mp this)
 have hnl : (l.map (·.1)).Nodup := by
  rw [List.map_append, List.nodup_append] at hn
  exact hn.2.1
 have hzl : l.length ≤ sizeLine := by rw [List.length_append] at hz; lia
 rw [hr', if_neg Bool.false_ne_true]
 refine cps fun PP kk => ?_
 obtain ⟨h₁, tk, ee1, hk, hsz, hm⟩ := hM
 refine kk ?_
 clear kk PP
 subst ee1
 cases main with
 | none =>
  dsimp only at hm ⊢
  subst hm
  refine wpAny_bind (sub_lits h hnl hzl fun d s' hs => wpAny_pure (hQ _ _ ?_))
  refine cps fun PP kk => ?_
  obtain ⟨ee2, h', tk', kvs, ee3, hd, hv, hk', hsz'⟩ := hs
  refine kk ?_
  clear kk PP
  subst ee2
  subst ee3
  exact ⟨h', tk', rfl, fun b o e => hk' b o (hk b o e), Nat.le_trans hsz hsz', hl0, hsz, kvs, hd, hv⟩
 | some d =>
  dsimp only at hm ⊢
  refine cps fun PP kk => ?_
  obtain ⟨hdone, hds, kvs, hd, hv⟩ := hm
  refine kk ?_
  clear kk PP
  refine wpAny_bind (wpAny_holding (sub_lits h hnl hzl fun a s' hs => ?_))
  refine cps fun PP kk => ?_
  obtain ⟨ee4, h', tk', kvs', ee5, hd', hv', hk', hsz'⟩ := hs
  refine kk ?_
  clear kk PP
  subst ee4
  subst ee5
  have hdo : d ≠ h₁.objs.size := by
   refine cps fun PP kk => ?_
   obtain ⟨o, es, ep, ho, _⟩ := hd
   refine kk ?_
   clear kk PP
   exact Nat.ne_of_lt (Heap.lt_size ho)
  have hd₂ : h'.DictOf (intKind prog w) d kvs := by
   refine cps fun PP kk => ?_
   obtain ⟨o, es, ep, ho, r⟩ := hd
   refine kk ?_
   clear kk PP
   exact ⟨o, es, ep, hk' _ _ ho, r⟩
  refine wpAny_bind (wpAny_onRaise (wpAny_holding ?_))
  refine wpAny_merge (knd := intKind prog w) (kvs := kvs) (more := kvs') hdo ?_ ?_ hd₂ hd' ?_ (fun h'' hd'' hs'' => wpAny_pure (hQ _ _ ?_)) ?_
  ·exact beq_eq_false_iff_ne.mpr (Nat.ne_of_gt (Nat.lt_of_lt_of_le hS hsz))
  ·intro e
   have := hv.len
   rw [e] at this
   exact hdone (List.length_eq_zero_iff.mp this.symm)
  ·rw [List.map_append, hv.keys, hv'.keys, ← List.map_append]; exact hn
  ·refine ⟨h'', tk', rfl, fun b o e => (hs''.2 b (Nat.ne_of_lt (Nat.lt_of_lt_of_le (Heap.lt_size e) hds))).trans (hk' b o (hk b o e)), by rw [hs''.1]; exact Nat.le_trans hsz hsz', ?_⟩
   exact ⟨by simp [hdone], hds, _, hd'', hv.append hv'⟩
  ·rw [hv.len, hv'.len, ← List.length_append]; exact hz
theorem display_loop (f : (Option (Sem Value) × Sem Value) → (Option Addr × List (Sem Value × Sem Value)) → Sem (ForInStep (Option Addr × List (Sem Value × Sem Value))))
  (hf1 : ∀ (main : Option Addr) (p : Sem Value × Sem Value) (run : List (Sem Value × Sem Value)), run.length + 1 < 17 → f (some p.1, p.2) (main, run) = pure (.yield (main, run ++ [p])))
  (hf2 : ∀ (main : Option Addr) (p : Sem Value × Sem Value) (run : List (Sem Value × Sem Value)), run.length + 1 = 17 → f (some p.1, p.2) (main, run) = (do let m ← flushD (run ++ [p]) main; pure (.yield (m, []))))
  {s₀ : Shared} (hS : sysModules < s₀.heap.objs.size) {Q : Option Addr × List (Sem Value × Sem Value) → Shared → Prop} {all : List (Int × Str)} (hn : (all.map (·.1)).Nodup) (hz : all.length ≤ sizeLine)
  (hQ : ∀ m run done l s', done ++ l = all → LP prog w A run l → Main prog w s₀ done m s' → Q (m, run) s') :
  ∀ (n : Nat) (ps : List (Sem Value × Sem Value)) (done l : List (Int × Str)) (main : Option Addr) (s : Shared), ps.length ≤ n → done ++ l = all → LP prog w A ps l → Main prog w s₀ done main s →
   wpAny (model prog w) A (forIn (ps.map fun p => (some p.1, p.2)) (main, []) f) Q E s := by
 have short : ∀ (ps : List (Sem Value × Sem Value)) (done l : List (Int × Str)) (main : Option Addr) (s : Shared), ps.length < 17 → done ++ l = all → LP prog w A ps l → Main prog w s₀ done main s → wpAny (model prog w) A (forIn (ps.map fun p => (some p.1, p.2)) (main, []) f) Q E s := fun ps done l main s h17 ha hp hM => by
  have := gather_run f main (hf1 main) ps [] [] (by simpa using h17)
  rw [List.append_nil] at this
  rw [this]
  exact wpAny_pure (hQ main ps done l s ha hp hM)
 intro n
 induction n with
 | zero => exact fun ps done l main s hlen => short ps done l main s (Nat.lt_of_le_of_lt hlen (by decide))
 | succ n ih =>
  intro ps done l main s hlen ha hp hM
  by_cases h17 : ps.length < 17
  ·exact short ps done l main s h17 ha hp hM
  ·have e1 : ps = ps.take 16 ++ ps.drop 16 := (List.take_append_drop 16 ps).symm
   have l1 : (ps.take 16).length = 16 := by rw [List.length_take]; lia
   obtain ⟨p, r, e2⟩ : ∃ p r, ps.drop 16 = p :: r := by
    cases h : ps.drop 16 with
    | nil => have := congrArg List.length h; simp at this; lia
    | cons p r => exact ⟨p, r, rfl⟩
   have e17 : ps.take 17 = ps.take 16 ++ [p] := by
    rw [List.take_add_one]
    congr 1
    have : ps[16]? = (ps.drop 16)[0]? := by simp
    rw [this, e2]; rfl
   have er : r = ps.drop 17 := by
    have : ps.drop 17 = (ps.drop 16).drop 1 := by rw [List.drop_drop]
    rw [this, e2]; rfl
   have g := gather_run f main (hf1 main) (ps.take 16) (ps.drop 16) [] (by rw [l1]; simp)
   rw [← e1, List.nil_append, e2, List.map_cons, List.forIn_cons, hf2 main p _ (by rw [l1]), ← e17] at g
   rw [g]
   refine wpAny_bind (wpAny_bind (flush_ok (l := l.take 17) hM (hp.take 17) ?_ ?_ hS fun m s' hM' => wpAny_pure ?_))
   ·refine List.Sublist.nodup (List.Sublist.map _ ?_) hn
    rw [← ha]
    exact List.Sublist.append (List.Sublist.refl _) (List.take_sublist _ _)
   ·refine Nat.le_trans ?_ hz
    rw [← ha, List.length_append, List.length_append, List.length_take]
    lia
   ·dsimp only
    rw [er]
    exact ih (ps.drop 17) (done ++ l.take 17) (l.drop 17) m s' (by rw [List.length_drop]; lia) (by rw [List.append_assoc, List.take_append_drop]; exact ha) (hp.drop 17) hM'
theorem dict_display {ps : List (Sem Value × Sem Value)} {l : List (Int × Str)} {Q : Value → Shared → Prop} (h : LP prog w A ps l) (hl : l ≠ []) (hn : (l.map (·.1)).Nodup) (hz : l.length ≤ sizeLine) (hS : sysModules < s.heap.objs.size)
  (hQ : ∀ d h' tk kvs, s.heap.objs.size ≤ d → h'.DictOf (intKind prog w) d kvs → LV l kvs → (∀ b o, s.heap.get? b = some o → h'.get? b = some o) → Q (.ref d) { s with heap := h', toks := tk }) :
  wpAny (model prog w) A (dictDisplay (ps.map fun p => (some p.1, p.2))) Q E s := by
 unfold dictDisplay
 dsimp only
 refine wpAny_bind (display_loop (s₀ := s) (all := l) (fun (x : Option (Sem Value) × Sem Value) (st : Option Addr × List (Sem Value × Sem Value)) => _) ?_ ?_ hS hn hz ?_ ps.length ps [] l none s (Nat.le_refl _) rfl h ⟨s.heap, s.toks, rfl, fun z1 z2 e => e, Nat.le_refl _, rfl⟩)
 ·intro main p run hr
  have hne : ((run ++ [(p.1, p.2)]).length == 17) = false := by simp; lia
  simp only [hne, Bool.false_eq_true, if_false]
 ·intro main p run hr
  have hne : ((run ++ [(p.1, p.2)]).length == 17) = true := by simp; lia
  simp only [hne, if_true]
  rfl
 ·intro m run done l' s' ha hp hM
  dsimp only
  refine wpAny_bind (flush_ok hM hp (by rw [ha]; exact hn) (by rw [ha]; exact hz) hS fun m' s'' hM' => ?_)
  obtain ⟨h', tk, rfl, hk, hsz, hm⟩ := hM'
  rw [ha] at hm
  cases m' with
  | none => exact absurd hm hl
  | some d =>
   obtain ⟨_, hd, kvs, hdo, hv⟩ := hm
   exact wpAny_pure (hQ d h' tk kvs hd hdo hv hk)
noncomputable def litK (e : Option PySem.Expr) : Option Int := e.bind fun e => match e with
 | .Constant c z1 z2 => (match c with
  | .int k => some k
  | z1 => none)
 | z1 => none
noncomputable def litT (e : PySem.Expr) : Option Str := match e with
 | .Constant c z1 z2 => (match c with
  | .str t => some t
  | z1 => none)
 | z1 => none
noncomputable def litKV : List (Option PySem.Expr) → List PySem.Expr → Option (List (Int × Str))
 | [], [] => some []
 | k :: ks, v :: vs => (litK k).bind fun a => (litT v).bind fun b => (litKV ks vs).map ((a, b) :: ·)
 | z1, z2 => none
theorem litK_inv {e : Option PySem.Expr} {k : Int} (h : litK e = some k) : ∃ a b, e = some (.Constant (.int k) a b) := by
 replace h := bnd h
 obtain ⟨e', rfl, h'⟩ := h
 cases e' with
 | Constant c a b => cases c with
  | int i => rw [← oi h']; exact ⟨a, b, rfl⟩
  | _ => exact nope h'
 | _ => exact nope h'
theorem litT_inv {e : PySem.Expr} {t : Str} (h : litT e = some t) : ∃ a b, e = .Constant (.str t) a b := by
 cases e with
 | Constant c a b => cases c with
  | str i => rw [← oi h]; exact ⟨a, b, rfl⟩
  | _ => exact nope h
 | _ => exact nope h
theorem litKV_inv {k : Option PySem.Expr} {ks : List (Option PySem.Expr)} {v : PySem.Expr} {vs : List PySem.Expr} {l : List (Int × Str)} (h : litKV (k :: ks) (v :: vs) = some l) :
  ∃ a t r k1 k2 k3 k4, k = some (.Constant (.int a) k1 k2) ∧ v = .Constant (.str t) k3 k4 ∧ litKV ks vs = some r ∧ l = (a, t) :: r := by
 replace h := Option.bind_eq_some_iff.mp h
 obtain ⟨a, ha, h⟩ := h
 replace h := Option.bind_eq_some_iff.mp h
 obtain ⟨t, ht, h⟩ := h
 obtain ⟨r, hr, rfl⟩ := Option.map_eq_some_iff.mp h
 obtain ⟨k1, k2, rfl⟩ := litK_inv ha
 obtain ⟨k3, k4, rfl⟩ := litT_inv ht
 exact ⟨a, t, r, k1, k2, k3, k4, rfl, rfl, hr, rfl⟩
theorem litKV_all : ∀ {ks : List (Option PySem.Expr)} {vs : List PySem.Expr} {l : List (Int × Str)}, litKV ks vs = some l → ks.all (·.isSome) = true ∧ ks.length = vs.length
 | [], [], z1, z2 => ⟨rfl, rfl⟩
 | k :: ks, v :: vs, l, h => by
  refine cps fun PP kk => ?_
  obtain ⟨a, t, r, k1, k2, k3, k4, ee1, ee2, hr, ee3⟩ := litKV_inv h
  refine kk ?_
  clear kk PP
  subst ee1
  subst ee2
  subst ee3
  have := litKV_all hr
  exact ⟨this.1, congrArg (· + 1) this.2⟩
 | [], z1 :: z2, z3, h => nomatch h
 | z1 :: z2, [], z3, h => nomatch h
theorem litKV_LP {env : Env} {pos : Pos} : ∀ {ks : List (Option PySem.Expr)} {vs : List PySem.Expr} {l : List (Int × Str)}, litKV ks vs = some l → LP prog w A (pairTrees ks vs env pos) l
 | [], [], l, h => by
  injection h with h
  subst h
  rfl
 | k :: ks, v :: vs, l, h => by
  refine cps fun PP kk => ?_
  obtain ⟨k, t, r, k1, k2, k3, k4, ee1, ee2, hr, ee3⟩ := litKV_inv h
  refine kk ?_
  clear kk PP
  subst ee1
  subst ee2
  subst ee3
  refine ⟨k, t, r, rfl, fun Q E s hQ => ?_, fun Q E s hQ => ?_, litKV_LP hr⟩
  ·rw [arm_eval_Constant]
   exact wpAny_mkInt (hQ _)
  ·refine wpAny_bind ?_
   rw [arm_eval_Constant]
   exact wpAny_mkText (wpAny_bind (wpAny_standAt (wpAny_pure (hQ _))))
 | [], z1 :: z2, z3, h => nomatch h
 | z1 :: z2, [], z3, h => nomatch h
theorem dict_lit {env : Env} {ks : List (Option PySem.Expr)} {vs : List PySem.Expr} {pos : Pos} {l : List (Int × Str)} {Q : Value → Shared → Prop} (hkv : litKV ks vs = some l) (hl : l ≠ []) (hn : (l.map (·.1)).Nodup) (hz : l.length ≤ sizeLine) (hS : sysModules < s.heap.objs.size)
  (hQ : ∀ d h' tk kvs, s.heap.objs.size ≤ d → h'.DictOf (intKind prog w) d kvs → LV l kvs → (∀ b o, s.heap.get? b = some o → h'.get? b = some o) → Q (.ref d) { s with heap := h', toks := tk }) :
  wpAny (model prog w) A (eval (.Dict ks vs pos) env) Q E s := by
 rw [arm_eval_Dict, zip_pairTrees ks vs env pos (litKV_all hkv).1 (litKV_all hkv).2]
 exact wpAny_bind (wpAny_standAt (dict_display (litKV_LP hkv) hl hn hz hS hQ))
end
end Rs.Internal
end
section
set_option tactic.hygienic false
open PySem PySem.Calls PyProof.Rows PySem.SeqAt PySem.Builtin.Str
namespace Rs.Internal
noncomputable def litInts : List PySem.Expr → Option (List Int)
 | [] => some []
 | e :: r => (litK (some e)).bind fun k => (litInts r).map (k :: ·)
section
variable {prog : Program} {w : World} {A : Around} {s : Shared} {env : Env} {pos : Pos}
structure ModEnv (env : Env) : Prop where
 kind : env.scope.kind = .module
 loc : env.locals = env.globals
 gl : env.globals = mainGlobals
 bi : env.builtins = builtinsNs
theorem m_load {mg mb : Str → Option Value} {x : Str} {v : Value} {Q : Value → Shared → Prop} {E : Value → Shared → Prop} (m : ModEnv env) (hg : s.heap.Ns mainGlobals mg) (hb : s.heap.Ns builtinsNs mb) (hf : mg x = none) (hv : mb x = some v)
  (hd : (x == ("__debug__" : Str)) = false) (h : Q v s) : wpAny (model prog w) A (eval (.Name x pos) env) Q E s :=
 Name_module m.kind m.loc (loadGlobal_builtin (m.gl ▸ hg) hf (m.bi ▸ hb) hv h) hd
theorem m_call_type {mg mb : Str → Option Value} {x : Str} {T : String} {np : Pos} {e : PySem.Expr} {r : List PySem.Expr} {ps : List PV} {O : List Addr} {Q : Value → Shared → Prop} (m : ModEnv env) (hf : mg x = none) (hv : mb x = some (.type T))
  (hd : (x == ("__debug__" : Str)) = false) (hg : s.heap.Ns mainGlobals mg) (hb : s.heap.Ns builtinsNs mb)
  (h : EvAll prog w A O env (e :: r) ps s)
  (hc : ∀ vs s', Kp s s' → RelL O s'.heap ps vs → wpAny (model prog w) A (call (.type T) vs) Q (fun z1 z2 => False) s') : wpAny (model prog w) A (eval (.Call (.Name x np) (e :: r) [] pos) env) Q (fun z1 z2 => False) s := by
 have hn : notStar e = true := by obtain ⟨_, _, _, n, _⟩ := h; exact n
 have hp := h.plain (pos := pos)
 rw [starEach_cons hn] at hp
 replace hp : (backTo pos (starEach r env)).any (·.1) = false := by simpa [backTo] using hp
 exact PyProof.Rows.Call_Name rfl (m_load m hg hb hf hv hd (PyProof.Rows.callWith_type1 ((h.spliced (pos := pos)).use fun vs s₁ k₁ r₁ => hc vs s₁ k₁ r₁) (starEach_cons hn r env) hp))
theorem litInts_cons {e : PySem.Expr} {r : List PySem.Expr} {is : List Int} (h : litInts (e :: r) = some is) : ∃ k a b q, e = .Constant (.int k) a b ∧ litInts r = some q ∧ is = k :: q := by
 obtain ⟨k, hk, h⟩ := bnd h
 obtain ⟨q, hq, h⟩ := mpd h
 obtain ⟨a, b, e1⟩ := litK_inv hk
 exact ⟨k, a, b, q, oi e1, hq, h.symm⟩
theorem litInts_ev {O : List Addr} (es : List PySem.Expr) : ∀ (is : List Int) (s : Shared), litInts es = some is → EvAll prog w A O env es (is.map .int) s := by
 induction es with
 | nil =>
  intro is s h
  rw [← oi h]; rfl
 | cons e r ih =>
  intro is s h
  refine cps fun PP kk => ?_
  obtain ⟨k, a, b, q, ee1, hq, ee2⟩ := litInts_cons h
  refine kk ?_
  clear kk PP
  subst ee1
  subst ee2
  exact ⟨.int k, q.map .int, rfl, rfl, fun s' z1 => (ev_const rfl).up, ih q s hq⟩
theorem relL_ints {O : List Addr} {h : Heap} : ∀ {is : List Int} {vs : List Value}, RelL O h (is.map .int) vs → IntsAre vs is := by
 intro is
 induction is with
 | nil =>
  intro vs x
  rw [show vs = [] from x]; exact .nil
 | cons i is ih__ =>
  intro vs x
  refine cps fun PP kk => ?_
  obtain ⟨v, r, ee1, ⟨t, ee2⟩, hr⟩ := x
  refine kk ?_
  clear kk PP
  subst ee1
  subst ee2
  exact .cons i t (ih__ hr)
theorem fitL_of {n : Nat} (h : n ≤ 1048576) : fitL n = true := by unfold fitL; exact Nat.ble_eq_true_of_le h
theorem alive_nil {h : Heap} : Alive [] h := fun z1 m => absurd m List.not_mem_nil
noncomputable def rangeI (lo hi : Int) : List Int := (List.range (rcount lo hi 1)).map fun (k : Nat) => lo + 1 * k
theorem set_lit {mg mb : Str → Option Value} {es : List PySem.Expr} {is : List Int} {lo hi : Int} {p1 p2 p3 p4 p5 p6 p7 pa pb : Pos} {ka kb : Nat} {Q : Value → Shared → Prop} (han : A.handled = none) (m : ModEnv env) (hg : s.heap.Ns mainGlobals mg) (hb : s.heap.Ns builtinsNs mb)
  (f1 : mg "set" = none) (f2 : mg "list" = none) (f3 : mg "range" = none) (v1 : mb "set" = some (.type "set")) (v2 : mb "list" = some (.type "list")) (v3 : mb "range" = some (.type "range"))
  (hi' : litInts es = some is) (hlo : small lo = true) (hhi : small hi = true) (hlen : is.length + (rangeI lo hi).length < 1000)
  (hQ : ∀ a h' tk n, s.heap.get? a = none → h'.SetOf (intKind prog w) a (fun k => (firstMet (fun i => (is ++ rangeI lo hi).getD i 0) (is ++ rangeI lo hi).length).any (· == k)) n → Above s.heap h' → Q (.ref a) { s with heap := h', toks := tk }) :
  wpAny (model prog w) A (eval (.Call (.Name "set" p1) [.BinOp (.List es p2) .Add (.Call (.Name "list" p3) [.Call (.Name "range" p4) [.Constant (.int lo) ka pa, .Constant (.int hi) kb pb] [] p5] [] p6) p7] [] pos) env) Q (fun z1 z2 => False) s := by
 have e1 : ∀ s', Kp s s' → Ev prog w A [] (eval (.Call (.Name "range" p4) [.Constant (.int lo) ka pa, .Constant (.int hi) kb pb] [] p5) env) (.rng lo hi 1) s' := fun s' k => by
  refine m_call_type (O := []) (ps := [.int lo, .int hi]) m f3 v3 (by decide) (hg.at' fun o e => k.above _ o e) (hb.at' fun o e => k.above _ o e) ⟨_, _, rfl, rfl, fun s'' z1 => (ev_const rfl).up, _, _, rfl, rfl, fun s'' z1 => (ev_const rfl).up, rfl⟩ fun vs s₁ k₁ r₁ => ?_
  exact (b_range2 (p := .rng lo hi 1) alive_nil (by simp [range2E, hlo, hhi]) r₁).use fun v s₂ k₂ r₂ => ⟨k₁.trans k₂, r₂⟩
 have e2 : ∀ s', Kp s s' → Ev prog w A [] (eval (.Call (.Name "list" p3) [.Call (.Name "range" p4) [.Constant (.int lo) ka pa, .Constant (.int hi) kb pb] [] p5] [] p6) env) (.lst (rangeL lo hi 1)) s' := fun s' k => by
  refine m_call_type (O := []) (ps := [.rng lo hi 1]) m f2 v2 (by decide) (hg.at' fun o e => k.above _ o e) (hb.at' fun o e => k.above _ o e) ⟨_, _, rfl, rfl, fun s'' k'' => e1 s'' (k.trans k''), rfl⟩ fun vs s₁ k₁ r₁ => ?_
  refine (b_listOf (p := .lst (rangeL lo hi 1)) han alive_nil ?_ r₁).use fun v s₂ k₂ r₂ => ⟨k₁.trans k₂, r₂⟩
  have : fitL (rcount lo hi 1) = true := by
   have : (rangeI lo hi).length = rcount lo hi 1 := by simp [rangeI]
   exact fitL_of (by lia)
  have s1 : small 1 = true := by decide
  have s0 : decide ((0 : Int) < 1) = true := by decide
  simp only [listOfE, hlo, hhi, this, s1, s0, Bool.and_self, if_true]
 have hcat : PV.lst (is.map .int ++ rangeL lo hi 1) = .lst ((is ++ rangeI lo hi).map .int) := by
  simp [rangeL, rangeI]
 have hl2 : (rangeL lo hi 1).length = (rangeI lo hi).length := by simp [rangeL, rangeI]
 have e3 : Ev prog w A [] (eval (.BinOp (.List es p2) .Add (.Call (.Name "list" p3) [.Call (.Name "range" p4) [.Constant (.int lo) ka pa, .Constant (.int hi) kb pb] [] p5] [] p6) p7) env) (.lst ((is ++ rangeI lo hi).map .int)) s := by
  refine s_bin alive_nil (s_list alive_nil (litInts_ev es _ _ hi') ?_) (fun s' k => e2 s' k) ?_
  ·exact fitL_of (by rw [List.length_map]; lia)
  ·rw [← hcat]
   have hfit : fitL ((is.map PV.int).length + (rangeL lo hi 1).length) = true := fitL_of (by rw [List.length_map, hl2]; lia)
   simp only [bAI, bAS, bAL, bSub, bMI, bMS, bFD, bMod, hfit, if_true]
 refine m_call_type (O := []) (ps := [.lst ((is ++ rangeI lo hi).map .int)]) m f1 v1 (by decide) hg hb ⟨_, _, rfl, rfl, fun s' k => ?_, rfl⟩ fun vs s₁ k₁ r₁ => ?_
 ·refine s_bin alive_nil (s_list alive_nil (litInts_ev es _ _ hi') ?_) (fun s'' k'' => e2 s'' (k.trans k'')) ?_
  ·exact fitL_of (by rw [List.length_map]; lia)
  ·rw [← hcat]
   have hfit : fitL ((is.map PV.int).length + (rangeL lo hi 1).length) = true := fitL_of (by rw [List.length_map, hl2]; lia)
   simp only [bAI, bAS, bAL, bSub, bMI, bMS, bFD, bMod, hfit, if_true]
 ·refine cps fun PP kk => ?_
  obtain ⟨v, ee1, a, us, ee2, _, hl, hr⟩ := rel1 r₁
  refine kk ?_
  clear kk PP
  subst ee1
  subst ee2
  have hints := relL_ints hr
  have hlu : us.length = (is ++ rangeI lo hi).length := hints.length
  have hsz : us.toArray.size = (is ++ rangeI lo hi).length := by rw [← hlu]; exact List.size_toArray
  refine call_set_list (items := us.toArray) (ns := is ++ rangeI lo hi) han hl.isList (by simpa using hints) (by rw [hsz, List.length_append]; unfold scanBound; lia) fun h' tk hS hk => ?_
  rw [hsz] at hS
  refine cps fun PP kk => ?_
  obtain ⟨⟨hh, tk', ee3, hab⟩, htk⟩ := k₁
  refine kk ?_
  clear kk PP
  subst ee3
  refine hQ _ h' tk _ ?_ hS fun b o e => hk b o (Heap.lt_size (hab _ _ e)) (hab _ _ e)
  cases e : s.heap.get? hh.objs.size with
  | none => rfl
  | some o => exact absurd (Heap.lt_size (hab _ _ e)) (Nat.lt_irrefl _)
end
end Rs.Internal
end
section
set_option tactic.hygienic false
set_option backward.match.sparseCases false
open PySem PySem.Calls PyProof.Rows PySem.SeqAt PySem.Builtin.Str
namespace Rs.Internal
noncomputable def noAnns : List Arg → Bool
 | [] => true
 | ⟨z1, none, z2⟩ :: r => noAnns r
 | z1 => false
theorem noAnns_eq (env : Env) : ∀ (l : List Arg), noAnns l = true → annotationsOf l env = []
 | [], z1 => rfl
 | ⟨a, none, p⟩ :: r, h => by
  have := noAnns_eq env r h
  show annotationsOf (⟨a, none, p⟩ :: r) env = []
  exact this
 | ⟨z1, some z2, z3⟩ :: z4, h => absurd h Bool.false_ne_true
theorem plain_tree {name : Str} {params : Arguments} {body : List Stmt} {scope : Scope} {pos : Pos} (h : plainArgs params = true) (ha : noAnns params.args = true) : PlainDefTree name params body scope pos := by
 intro env
 refine cps fun PP kk => ?_
 obtain ⟨po, as, va, ko, kd, kw, ds⟩ := params
 refine kk ?_
 clear kk PP
 simp only [plainArgs, Bool.and_eq_true, List.isEmpty_iff, Option.isNone_iff_eq_none] at h
 refine cps fun PP kk => ?_
 obtain ⟨⟨⟨⟨⟨⟨h1, h2⟩, h3⟩, h4⟩, h5⟩, h6⟩, h7⟩ := h
 refine kk ?_
 clear kk PP
 subst h1 h2 h3 h4 h5 h6
 rw [exec_def, defaultsOf_eq]
 have e : annTrees ⟨[], as, none, [], [], none, []⟩ none env = [] := by
  show annotationsOf (as ++ [] ++ [] ++ [] ++ []) env ++ [] = []
  simp only [List.append_nil]
  exact noAnns_eq env as ha
 rw [e]
 rfl
theorem lookup_zip {β : Type} : ∀ (ns : List Str) (vs : List β), vs.length = ns.length → ∀ n ∈ ns, ((ns.zip vs).lookup n).isSome = true
 | [], z1, z2, n, hn => absurd hn List.not_mem_nil
 | m :: ns, [], h, n, hn => by simp at h
 | m :: ns, v :: vs, h, n, hn => by
  rw [List.zip_cons_cons, List.lookup_cons]
  by_cases e : (n == m) = true
  ·rw [e]; rfl
  ·replace e : (n == m) = false := by simpa using e
   rw [e]
   refine lookup_zip ns vs (by simpa using h) n ?_
   rcases List.mem_cons.mp hn with rfl | q
   ·simp at e
   ·exact q
theorem filterMap_congr' {α β : Type} {f g : α → Option β} : ∀ (l : List α), (∀ x ∈ l, f x = g x) → l.filterMap f = l.filterMap g := by
 intro l
 induction l with
 | nil =>
  intro _
  exact rfl
 | cons x r ih__ =>
  intro h
  rw [List.filterMap_cons, List.filterMap_cons, h x (List.mem_cons_self ..), ih__ fun y hy => h y (List.mem_cons_of_mem _ hy)]
theorem filterMap_zip {β : Type} : ∀ (ns : List Str) (vs : List β), vs.length = ns.length → ns.Nodup → ns.filterMap (fun n => ((ns.zip vs).lookup n).map (n, ·)) = ns.zip vs
 | [], z1, z2, z3 => rfl
 | m :: ns, [], h, z1 => by simp at h
 | m :: ns, v :: vs, h, hn => by
  replace hn := List.nodup_cons.mp hn
  rw [List.zip_cons_cons, List.filterMap_cons, List.lookup_cons]
  have e : (m == m) = true := by simp
  rw [e]
  simp only [Option.map_some, List.cons.injEq, true_and]
  refine (filterMap_congr' (g := fun n => ((ns.zip vs).lookup n).map (n, ·)) ns fun n hm => ?_).trans (filterMap_zip ns vs (by simpa using h) hn.2)
  rw [List.lookup_cons]
  have e : (n == m) = false := by
   cases q : (n == m) with
   | false => rfl
   | true => exact absurd (eq_of_beq q ▸ hm) hn.1
  rw [e]
theorem seq_none : seqItems? .none = pure none := rfl
theorem ifn {α : Type} {c : Prop} [Decidable c] {t e r : α} (hc : ¬ c) (h : e = r) : (if c then t else e) = r := (if_neg hc).trans h
theorem fin_nil {α β γ : Type} {xs : List α} {i : β} {f : α → β → Sem (ForInStep β)} {k : β → Sem γ} {r : Sem γ} (h : xs = []) (h' : k i = r) : (forIn xs i f >>= k) = r := by subst h; exact h'
theorem bind_plain {fd : FuncData} {as : List Arg} {vals : List Value} (hp : fd.params = ⟨[], as, none, [], [], none, []⟩) (hd : fd.defaults = .none) (hn : (as.map (·.arg)).Nodup) (hl : vals.length = (as.map (·.arg)).length) :
  bindArgs fd ⟨vals, []⟩ = pure ((as.map (·.arg)).zip vals) := by
 unfold bindArgs
 rw [hp, hd, seq_none]
 have h1 : ¬ vals.length > (as.map (·.arg)).length := by lia
 have h2 : ∀ k, (((as.map (·.arg)).take k).filter fun n => (((as.map (·.arg)).zip vals).lookup n).isNone) = [] := fun k => by
  refine List.filter_eq_nil_iff.mpr fun n hm q => ?_
  have := lookup_zip _ _ hl n (List.mem_of_mem_take hm)
  rw [Option.isNone_iff_eq_none.mp q] at this
  cases this
 have h3 := filterMap_zip _ _ hl hn
 refine ifn (fun q => h1 (by simpa using q)) ?_
 refine ifn (fun q => Bool.noConfusion ((congrArg (fun l : List Str => !l.isEmpty) (h2 _)).symm.trans q)) ?_
 refine fin_nil ((congrArg (List.zip _) List.drop_nil).trans List.zip_nil_right) ?_
 exact (congrArg (fun l => (pure (List.filterMap (fun n => (((as.map (·.arg)).zip vals).lookup n).map (n, ·)) l) : Sem (List (Str × Value)))) (List.append_nil _)).trans (congrArg pure h3)
end Rs.Internal
end
section
set_option tactic.hygienic false
set_option backward.match.sparseCases false
open PySem PySem.Calls PyProof.Rows PySem.SeqAt PySem.Builtin.Str
namespace Rs.Internal
inductive SK where
 | fn (d : DefRec)
 | con (x : Str) (p : PV)
 | dict (x : Str) (l : List (Int × Str))
 | set (x : Str) (is : List Int)
noncomputable def SK.name : SK → Str
 | .fn d => d.name
 | .con x z1 => x
 | .dict x z1 => x
 | .set x z1 => x
noncomputable def incI : List Int → Bool
 | a :: b :: r => decide (a < b) && incI (b :: r)
 | z1 => true
theorem incI_lt : ∀ (a : Int) (l : List Int), incI (a :: l) = true → ∀ b ∈ l, a < b
 | a, [], z1, b, hb => absurd hb List.not_mem_nil
 | a, c :: r, h, b, hb => by
  replace h := (Bool.and_eq_true_iff).mp (show (decide (a < c) && incI (c :: r)) = true from h)
  rcases List.mem_cons.mp hb with rfl | q
  ·exact of_decide_eq_true h.1
  ·exact Int.lt_trans (of_decide_eq_true h.1) (incI_lt c r h.2 b q)
theorem incI_tail {a : Int} : ∀ {l : List Int}, incI (a :: l) = true → incI l = true := by
 intro l
 induction l with
 | nil =>
  intro _
  exact rfl
 | cons c r ih__ =>
  intro h
  exact ((Bool.and_eq_true_iff).mp (show (decide (a < c) && incI (c :: r)) = true from h)).2
theorem incI_nodup : ∀ (l : List Int), incI l = true → l.Nodup := by
 intro l
 induction l with
 | nil =>
  intro _
  exact List.nodup_nil
 | cons a l ih__ =>
  intro h
  exact List.nodup_cons.mpr ⟨fun m => Int.lt_irrefl _ (incI_lt a l h a m), ih__ (incI_tail h)⟩
noncomputable def okName (sc : Scope) (x : Str) : Bool := sc.names.lookup x == some .local && x != ("__builtins__" : Str)
noncomputable def callV (n : Str) (e : PySem.Expr) : Option (List PySem.Expr) := match e with
 | .Call f as ks z1 => if nameIs f == some n && ks.isEmpty then some as else none
 | z1 => none
noncomputable def addV (e : PySem.Expr) : Option (PySem.Expr × PySem.Expr) := match e with
 | .BinOp a op b z1 => if op == .Add then some (a, b) else none
 | z1 => none
noncomputable def listV (e : PySem.Expr) : Option (List PySem.Expr) := match e with
 | .List es z1 => some es
 | z1 => none
theorem callV_inv {n : Str} {e : PySem.Expr} {as : List PySem.Expr} (h : callV n e = some as) : ∃ p q, e = .Call (.Name n p) as [] q := by
 cases e with
 | Call f as ks q =>
  obtain ⟨hc, h⟩ := its h
  rw [Bool.and_eq_true, beq_iff_eq] at hc
  obtain ⟨p, e⟩ := nameIs_of hc.1
  rw [← Option.some.inj h, List.isEmpty_iff.mp hc.2, e]
  exact ⟨p, _, rfl⟩
 | _ => exact nope h
theorem addV_inv {e : PySem.Expr} {q : PySem.Expr × PySem.Expr} (h : addV e = some q) : ∃ p, e = .BinOp q.1 .Add q.2 p := by
 cases e with
 | BinOp a op b p =>
  obtain ⟨hc, h⟩ := its h
  rw [← Option.some.inj h, beq_iff_eq.mp hc]
  exact ⟨p, rfl⟩
 | _ => exact nope h
theorem listV_inv {e : PySem.Expr} {es : List PySem.Expr} (h : listV e = some es) : ∃ p, e = .List es p := by
 cases e with
 | List l p => rw [← Option.some.inj h]; exact ⟨p, rfl⟩
 | _ => exact nope h
noncomputable def rngV (e : PySem.Expr) : Option (Int × Int) := (callV "list" e).bind fun l => (sole l).bind fun r => (callV "range" r).bind fun l => (pair l).bind fun lh => (litK (some lh.1)).bind fun lo => (litK (some lh.2)).map fun hi => (lo, hi)
theorem rngV_inv {e : PySem.Expr} {q : Int × Int} (h : rngV e = some q) : ∃ p3 p4 ka pa kb pb p5 p6, e = .Call (.Name "list" p3) [.Call (.Name "range" p4) [.Constant (.int q.1) ka pa, .Constant (.int q.2) kb pb] [] p5] [] p6 := by
 obtain ⟨l', h5, h⟩ := bnd h
 obtain ⟨r, h6, h⟩ := bnd h
 obtain ⟨l'', h7, h⟩ := bnd h
 obtain ⟨z, h8, h⟩ := bnd h
 obtain ⟨lo', h9, h⟩ := bnd h
 obtain ⟨hi', h10, h⟩ := mpd h
 obtain ⟨p3, p6, e5⟩ := callV_inv h5
 obtain ⟨p4, p5, e7⟩ := callV_inv h7
 obtain ⟨ka, pa, e9⟩ := litK_inv h9
 obtain ⟨kb, pb, e10⟩ := litK_inv h10
 rw [← h, e5, sole_of h6, e7, pair_of h8, Option.some.inj e9, Option.some.inj e10]
 exact ⟨p3, p4, ka, pa, kb, pb, p5, p6, rfl⟩
noncomputable def setV (e : PySem.Expr) : Option (List PySem.Expr × Int × Int) := (callV "set" e).bind fun l => (sole l).bind fun s => (addV s).bind fun ab => (listV ab.1).bind fun es => (rngV ab.2).map fun q => (es, q)
theorem setV_inv {e : PySem.Expr} {q : List PySem.Expr × Int × Int} (h : setV e = some q) : ∃ p1 p2 p3 p4 ka pa kb pb p5 p6 p7 p8,
  e = .Call (.Name "set" p1) [.BinOp (.List q.1 p2) .Add (.Call (.Name "list" p3) [.Call (.Name "range" p4) [.Constant (.int q.2.1) ka pa, .Constant (.int q.2.2) kb pb] [] p5] [] p6) p7] [] p8 := by
 obtain ⟨l, h1, h⟩ := bnd h
 obtain ⟨s, h2, h⟩ := bnd h
 obtain ⟨ab, h3, h⟩ := bnd h
 obtain ⟨es', h4, h⟩ := bnd h
 obtain ⟨r, h5, h⟩ := mpd h
 obtain ⟨p1, p8, e1⟩ := callV_inv h1
 obtain ⟨p7, e3⟩ := addV_inv h3
 obtain ⟨p2, e4⟩ := listV_inv h4
 refine cps fun PP kk => ?_
 obtain ⟨p3, p4, ka, pa, kb, pb, p5, p6, e5⟩ := rngV_inv h5
 refine kk ?_
 clear kk PP
 rw [← h, e1, sole_of h2, e3, e4, e5]
 exact ⟨p1, p2, p3, p4, ka, pa, kb, pb, p5, p6, p7, p8, rfl⟩
noncomputable def setK (x : Str) (e : PySem.Expr) : Option SK := (setV e).bind fun q => (litInts q.1).bind fun is =>
 if small q.2.1 && small q.2.2 && Nat.blt (is.length + (rangeI q.2.1 q.2.2).length) 1000 && x != ("__name__" : Str) then some (.set x (is ++ rangeI q.2.1 q.2.2)) else none
noncomputable def dictK (x : Str) (ks : List (Option PySem.Expr)) (vs : List PySem.Expr) : Option SK := (litKV ks vs).bind fun l =>
 if !l.isEmpty && incI (l.map (·.1)) && Nat.ble l.length 100000 && x != ("__name__" : Str) then some (.dict x l) else none
noncomputable def valKind (x : Str) (e : PySem.Expr) : Option SK := match e with
 | .Constant c z1 z2 => (litOf c).map (.con x)
 | .Dict ks vs z1 => dictK x ks vs
 | .Call f as ks p => setK x (.Call f as ks p)
 | z1 => none
noncomputable def skOf (sc : Scope) : Stmt → Option SK
 | .FunctionDef name args body ds rt tp scope tc nm pos =>
  if !(ds.isEmpty && rt.isNone && tp.isEmpty && tc.isNone) then none else
  if nm == name && plainArgs args && noAnns args.args && scope.names.all (fun x => x.2 != .free) && okName sc name && name != ("__name__" : Str) &&
   (qualnameIn { scope := sc, locals := mainGlobals, globals := mainGlobals, cells := [] } name name == name) then some (.fn ⟨name, args, body, scope, pos⟩) else none
 | .Assign ts e z1 => (sole ts).bind fun t => (nameIs t).bind fun x => if okName sc x then valKind x e else none
 | z1 => none
section
variable {prog : Program} {w : World}
noncomputable def FactK (prog : Program) (w : World) (k : Addr) (mg : Str → Option Value) (h : Heap) : SK → Prop
 | .fn d => d.name ≠ "__name__" ∧ h.HasFn mg k d
 | .con x p => x = "__name__" ∨ ∃ v, mg x = some v ∧ ∀ (O : List Addr) (h' : Heap), Rel O h' p v
 | .dict x l => x ≠ "__name__" ∧ ∃ d kvs, mg x = some (.ref d) ∧ d ≠ k ∧ d ≠ mainGlobals ∧ h.DictOf (intKind prog w) d kvs ∧ LV l kvs ∧ (d == sysModules) = false
 | .set x is => x ≠ "__name__" ∧ ∃ a n, mg x = some (.ref a) ∧ a ≠ k ∧ a ≠ mainGlobals ∧ h.SetOf (intKind prog w) a (fun k => (firstMet (fun i => is.getD i 0) is.length).any (· == k)) n
theorem fn_step {k : Addr} {mg mg' : Str → Option Value} {h h' : Heap} (hk : mainGlobals < k) {d : DefRec} (hf : h.HasFn mg k d) (hm : mg' d.name = mg d.name) (keep : ∀ b o, b ≠ k → b ≠ mainGlobals → h.get? b = some o → h'.get? b = some o) : h'.HasFn mg' k d := by
 refine cps fun PP kk => ?_
 obtain ⟨a, o, pm, cd, doc, h1, h2, h3, h4, h5, h6⟩ := hf
 refine kk ?_
 clear kk PP
 exact ⟨a, o, pm, cd, doc, hm.trans h1, keep _ _ (Nat.ne_of_gt h5) (Nat.ne_of_gt (Nat.lt_trans hk h5)) h2, h3, h4.at fun o => keep _ o (Nat.ne_of_gt h6) (Nat.ne_of_gt (Nat.lt_trans hk h6)), h5, h6⟩
theorem dict_step {h h' : Heap} {d : Addr} {kvs} (hd : h.DictOf (intKind prog w) d kvs) (keep : ∀ o, h.get? d = some o → h'.get? d = some o) : h'.DictOf (intKind prog w) d kvs := by
 refine cps fun PP kk => ?_
 obtain ⟨o, es, ep, ho, r⟩ := hd
 refine kk ?_
 clear kk PP
 exact ⟨o, es, ep, keep _ ho, r⟩
theorem set_step {h h' : Heap} {a : Addr} {S} {n : Nat} (hd : h.SetOf (intKind prog w) a S n) (keep : ∀ o, h.get? a = some o → h'.get? a = some o) : h'.SetOf (intKind prog w) a S n := by
 refine cps fun PP kk => ?_
 obtain ⟨o, es, ep, t, ho, r⟩ := hd
 refine kk ?_
 clear kk PP
 exact ⟨o, es, ep, t, keep _ ho, r⟩
theorem FactK.step {k : Addr} {mg mg' : Str → Option Value} {h h' : Heap} (hk : mainGlobals < k) {x : SK} (hx : FactK prog w k mg h x) (hm : x.name ≠ "__name__" → mg' x.name = mg x.name) (keep : ∀ b o, b ≠ k → b ≠ mainGlobals → h.get? b = some o → h'.get? b = some o) : FactK prog w k mg' h' x := by
 cases x with
 | fn d => exact ⟨hx.1, fn_step hk hx.2 (hm hx.1) keep⟩
 | con x p =>
  by_cases hn : x = "__name__"
  ·exact .inl hn
  ·rcases hx with q | ⟨v, h1, h2⟩
   ·exact absurd q hn
   ·exact .inr ⟨v, (hm hn).trans h1, h2⟩
 | dict x l =>
  refine cps fun PP kk => ?_
  obtain ⟨hn, d, kvs, h1, h2, h3, h4, h5⟩ := hx
  refine kk ?_
  clear kk PP
  exact ⟨hn, d, kvs, (hm hn).trans h1, h2, h3, dict_step h4 fun o => keep _ _ h2 h3, h5⟩
 | set x is =>
  refine cps fun PP kk => ?_
  obtain ⟨hn, a, n, h1, h2, h3, h4⟩ := hx
  refine kk ?_
  clear kk PP
  exact ⟨hn, a, n, (hm hn).trans h1, h2, h3, set_step h4 fun o => keep _ _ h2 h3⟩
structure TI (prog : Program) (w : World) (h₀ : Heap) (mg₀ : Str → Option Value) (c Pl : Addr) (done : List SK) (h : Heap) (mg : Str → Option Value) (l : List (Pos × Addr)) : Prop where
 main : h.Main mg c Pl (triples l).toArray
 keep : ∀ b o, b ≠ Pl → b ≠ mainGlobals → h₀.get? b = some o → h.get? b = some o
 others : ∀ x, x ∉ done.map (·.name) → mg x = mg₀ x
 facts : ∀ x ∈ done, FactK prog w Pl mg h x
theorem not_main {h : Heap} {mg : Str → Option Value} {c Pl : Addr} {ps : Array Value} (m : h.Main mg c Pl ps) {a : Addr} (e : h.get? a = none) : a ≠ Pl ∧ a ≠ mainGlobals := by
 constructor
 ·rintro rfl
  obtain ⟨oc, vs, file, tf, flags, tg, inF, text, tt, op, e1, r1, r2, r3, r4, r5, r6, e2, r⟩ := m.code
  rw [e] at e2; cases e2
 ·rintro rfl
  obtain ⟨o, es, ep, ho, _⟩ := m.g
  rw [e] at ho; cases ho
variable {A : Around} {s : Shared} {h₀ : Heap} {mg₀ mg : Str → Option Value} {c Pl F : Addr} {done : List SK} {l : List (Pos × Addr)} {Q : Flow → Shared → Prop}
theorem mainEnv_ok (hmod : prog.main.scope.kind = .module) : ModEnv (mainEnv prog c F) := ⟨hmod, rfl, rfl, rfl⟩
theorem top_assign {x : Str} {px pos : Pos} {e : PySem.Expr} {k : SK} (hmod : prog.main.scope.kind = .module) (T : TI prog w h₀ mg₀ c Pl done s.heap mg l) (hx : okName prog.main.scope x = true) (hk : k.name = x)
  (hnew : ∀ y ∈ done, y.name ≠ "__name__" → y.name ≠ x)
  (hs : swapsWith e (some (.Name x px)) pos.line (mainEnv prog c F) = pure false)
  (hval : ∀ Q' : Value → Shared → Prop, (∀ v h₁ tk, (∀ b o', s.heap.get? b = some o' → h₁.get? b = some o') →
    (∀ mg' h', mg' x = some v → (∀ b o, b ≠ mainGlobals → h₁.get? b = some o → h'.get? b = some o) → FactK prog w Pl mg' h' k) → Q' v { s with heap := h₁, toks := tk }) → wpAny (model prog w) A (eval e (mainEnv prog c F)) Q' (fun z1 z2 => False) s)
  (hQ : ∀ h' mg' tk, TI prog w h₀ mg₀ c Pl (done ++ [k]) h' mg' l → Q .next { s with heap := h', toks := tk }) :
  wpAny (model prog w) A (exec (.Assign [.Name x px] e pos) (mainEnv prog c F)) Q (fun z1 z2 => False) s := by
 simp only [okName, Bool.and_eq_true, beq_iff_eq, bne_iff_ne, ne_eq] at hx
 refine wpAny_Assign_Name (hval _ fun v h₁ tk hab hf => ?_) hs
 refine cps fun PP kk => ?_
 obtain ⟨bm, o, hbm, hne0, hneG, hneP, hbo, hrest⟩ := T.main.bmod
 refine kk ?_
 clear kk PP
 refine wpAny_storeName_local (s := { s with heap := h₁, toks := tk }) (env := mainEnv prog c F) hx.1 (T.main.g.at fun o => hab _ o) (fun h' hg' hs' => ?_)
  (by show (prog.main.scope.kind == .class || (prog.main.scope.kind == .module && mainGlobals != mainGlobals)) = false; rw [hmod]; rfl)
 dsimp only at hg' hs'
 have hk' : ∀ b o, b ≠ mainGlobals → h₁.get? b = some o → h'.get? b = some o := fun b o hG e => (hs'.2 _ hG).trans e
 have hm : h'.Main (fun y => if y = x then some v else mg y) c Pl (triples l).toArray :=
  ⟨hg', (T.main.code.keeps hab).sameBut hs' (Nat.ne_of_gt T.main.low.1) (Nat.ne_of_gt T.main.low.2), T.main.low,
   ⟨bm, o, by simp only [Ne.symm hx.2, if_false]; exact hbm, hne0, hneG, hneP, hk' _ _ hneG (hab _ _ hbo), hrest⟩⟩
 refine hQ h' _ _ ⟨hm, fun b o hP hG e => hk' b o hG (hab b o (T.keep b o hP hG e)), fun y hy => ?_, fun y hy => ?_⟩
 ·rw [List.map_append, List.mem_append, not_or] at hy
  have hne : y ≠ x := fun e => hy.2 (by simp [hk, e])
  show (if y = x then _ else mg y) = _
  rw [if_neg hne]
  exact T.others y hy.1
 ·rcases List.mem_append.mp hy with q | q
  ·refine (T.facts y q).step T.main.low.2 (fun hn => ?_) fun b o hP hG e => hk' b o hG (hab b o e)
   show (if y.name = x then _ else mg y.name) = _
   rw [if_neg (hnew y q hn)]
  ·obtain rfl : y = k := by simpa using q
   exact hf _ h' (if_pos rfl) hk'
end
end Rs.Internal
end
section
set_option tactic.hygienic false
set_option backward.match.sparseCases false
open PySem PySem.Calls PyProof.Rows PySem.SeqAt PySem.Builtin.Str
namespace Rs.Internal
noncomputable def SK.posL : SK → List (Nat × Nat)
 | .fn d => [(d.pos.line, d.pos.col)]
 | z1 => []
section
variable {prog : Program} {w : World} {A : Around} {s : Shared} {h₀ : Heap} {mg₀ mg mb : Str → Option Value} {c Pl F : Addr} {done : List SK} {l : List (Pos × Addr)} {Q : Flow → Shared → Prop}
theorem valKind_name {x : Str} {e : PySem.Expr} {k : SK} (h : valKind x e = some k) : k.name = x ∧ k.posL = [] := by
 cases e with
 | Constant c z1 z2 =>
  replace h := mpd h
  obtain ⟨p, _, rfl⟩ := h
  exact ⟨rfl, rfl⟩
 | Dict ks vs z1 =>
  replace h := bnd h
  obtain ⟨l, _, h⟩ := h
  rw [← Option.some.inj (its h).2]
  exact ⟨rfl, rfl⟩
 | Call f as ks p =>
  replace h := bnd h
  obtain ⟨l, _, h⟩ := h
  replace h := bnd h
  obtain ⟨is, _, h⟩ := h
  rw [← Option.some.inj (its h).2]
  exact ⟨rfl, rfl⟩
 | _ => exact nope h
structure Out (h₀ : Heap) (mg₀ mb : Str → Option Value) (Pl : Addr) : Prop where
 bi : h₀.Ns builtinsNs mb
 b1 : mb "set" = some (.type "set")
 b2 : mb "list" = some (.type "list")
 b3 : mb "range" = some (.type "range")
 f1 : mg₀ "set" = none
 f2 : mg₀ "list" = none
 f3 : mg₀ "range" = none
 low : builtinsNs ≠ Pl ∧ sysModules ≠ Pl
 mods : ∃ o, h₀.get? sysModules = some o
theorem const_lit {cst : Const} {p : PV} {env : Env} (hp : litOf cst = some p) : ∃ v, (∀ (O : List Addr) (h' : Heap), Rel O h' p v) ∧ ∀ (Q' : Value → Shared → Prop), (∀ tk, Q' v { s with toks := tk }) → wpAny (model prog w) A (constValue env cst) Q' (fun z1 z2 => False) s := by
 cases cst with
 | none => (obtain rfl := oi hp; clear hp); exact ⟨.none, fun z1 z2 => rfl, fun Q' h => wpAny_pure (h s.toks)⟩
 | bool b => (obtain rfl := oi hp; clear hp); exact ⟨.bool b, fun z1 z2 => rfl, fun Q' h => wpAny_pure (h s.toks)⟩
 | int i => (obtain rfl := oi hp; clear hp); exact ⟨.int i s.toks, fun z1 z2 => ⟨_, rfl⟩, fun Q' h => wpAny_mkInt (h _)⟩
 | str t => (obtain rfl := oi hp; clear hp); exact ⟨.str t s.toks, fun z1 z2 => ⟨s.toks, rfl⟩, fun Q' h => wpAny_mkText (h _)⟩
 | _ => exact nope hp
theorem val_con {x : Str} {cst : Const} {kk : Nat} {pp : Pos} {p : PV} (hp : litOf cst = some p) : ∀ Q' : Value → Shared → Prop, (∀ v h₁ tk, (∀ b o', s.heap.get? b = some o' → h₁.get? b = some o') →
  (∀ mg' h', mg' x = some v → (∀ b o, b ≠ mainGlobals → h₁.get? b = some o → h'.get? b = some o) → FactK prog w Pl mg' h' (.con x p)) → Q' v { s with heap := h₁, toks := tk }) → wpAny (model prog w) A (eval (.Constant cst kk pp) (mainEnv prog c F)) Q' (fun z1 z2 => False) s := fun Q' hQ' => by
 obtain ⟨v, hv, hw⟩ := const_lit hp
 rw [arm_eval_Constant]
 exact hw _ fun tk => hQ' v s.heap tk (fun z1 z2 e => e) fun mg' h' hm z1 => .inr ⟨v, hm, hv⟩
theorem val_dict {x : Str} {ks : List (Option PySem.Expr)} {vs : List PySem.Expr} {pp : Pos} {k : SK} (hmods : sysModules < s.heap.objs.size) (M : ∀ d, s.heap.objs.size ≤ d → d ≠ Pl ∧ d ≠ mainGlobals) (hk : dictK x ks vs = some k) : ∀ Q' : Value → Shared → Prop, (∀ v h₁ tk, (∀ b o', s.heap.get? b = some o' → h₁.get? b = some o') →
  (∀ mg' h', mg' x = some v → (∀ b o, b ≠ mainGlobals → h₁.get? b = some o → h'.get? b = some o) → FactK prog w Pl mg' h' k) → Q' v { s with heap := h₁, toks := tk }) → wpAny (model prog w) A (eval (.Dict ks vs pp) (mainEnv prog c F)) Q' (fun z1 z2 => False) s := fun Q' hQ' => by
 replace hk := bnd hk
 obtain ⟨lst, hl, hk⟩ := hk
 replace hk := its hk
 obtain ⟨hc, hk⟩ := hk
 obtain rfl := oi hk
 simp only [Bool.and_eq_true, Bool.not_eq_true', List.isEmpty_eq_false_iff, bne_iff_ne, ne_eq] at hc
 refine dict_lit hl hc.1.1.1 (incI_nodup _ hc.1.1.2) ?_ hmods fun d h' tk kvs hd hdo hv hab => hQ' _ h' tk hab fun mg' h'' hm hk' => ?_
 ·have := Nat.le_of_ble_eq_true hc.1.2
  clear hc hQ' M
  rw [sizeLine_eq]; lia
 ·exact ⟨hc.2, d, kvs, hm, (M d hd).1, (M d hd).2, dict_step hdo fun o => hk' _ _ (M d hd).2, hv, beq_eq_false_iff_ne.mpr (Nat.ne_of_gt (Nat.lt_of_lt_of_le hmods hd))⟩
theorem top_val {x : Str} {px pos : Pos} {e : PySem.Expr} {k : SK} (hmod : prog.main.scope.kind = .module) (han : A.handled = none) (O : Out h₀ mg₀ mb Pl) (T : TI prog w h₀ mg₀ c Pl done s.heap mg l) (hx : okName prog.main.scope x = true) (hk : valKind x e = some k)
  (hnew : ∀ y ∈ done, y.name ≠ "__name__" → y.name ≠ x) (hset : ∀ y ∈ done, y.name ≠ "set" ∧ y.name ≠ "list" ∧ y.name ≠ "range")
  (hQ : ∀ h' mg' tk, TI prog w h₀ mg₀ c Pl (done ++ [k]) h' mg' l → Q .next { s with heap := h', toks := tk }) :
  wpAny (model prog w) A (exec (.Assign [.Name x px] e pos) (mainEnv prog c F)) Q (fun z1 z2 => False) s := by
 have hkn := (valKind_name hk).1
 cases e with
 | Constant cst kk pp =>
  replace hk := mpd hk
  obtain ⟨p, hp, rfl⟩ := hk
  exact top_assign hmod T hx hkn hnew rfl (val_con hp) hQ
 | Dict ks vs pp =>
  have hmods : sysModules < s.heap.objs.size := by
   obtain ⟨o, ho⟩ := O.mods
   exact Heap.lt_size (T.keep _ o O.low.2 (by decide) ho)
  exact top_assign hmod T hx hkn hnew rfl (val_dict hmods (fun d hd => not_main T.main (Heap.get?_none_of_le hd)) hk) hQ
 | Call f as ks p =>
  have mgN : ∀ y : Str, (∀ z ∈ done, z.name ≠ y) → mg y = mg₀ y := fun y hy => T.others y fun m => by
   obtain ⟨z, hz, e⟩ := List.mem_map.mp m
   exact hy z hz e
  replace hk := bnd hk
  obtain ⟨q, hv, hk⟩ := hk
  replace hk := bnd hk
  obtain ⟨is, hl, hk⟩ := hk
  replace hk := its hk
  obtain ⟨hc, hk⟩ := hk
  obtain rfl := oi hk
  simp only [Bool.and_eq_true, beq_iff_eq, bne_iff_ne, ne_eq, Nat.blt_eq] at hc
  refine cps fun PP kk => ?_
  obtain ⟨p1, p2, p3, p4, ka, pa, kb, pb, p5, p6, p7, p8, e⟩ := setV_inv hv
  refine kk ?_
  clear kk PP
  rw [e]
  refine top_assign hmod T hx hkn hnew rfl (fun Q' hQ' => ?_) hQ
  refine set_lit han (mainEnv_ok hmod) T.main.g (O.bi.at fun o => T.keep _ o O.low.1 (by decide)) ((mgN _ fun z hz => (hset z hz).1).trans O.f1) ((mgN _ fun z hz => (hset z hz).2.1).trans O.f2) ((mgN _ fun z hz => (hset z hz).2.2).trans O.f3)
   O.b1 O.b2 O.b3 hl hc.1.1.1 hc.1.1.2 hc.1.2 fun a h' tk n ha hS hab => hQ' _ h' tk hab fun mg' h'' hm hk' => ?_
  have hnm := not_main T.main ha
  exact ⟨hc.2, a, n, hm, hnm.1, hnm.2, set_step hS fun o => hk' _ _ hnm.2⟩
 | _ => exact nope hk
theorem top_def {name : Str} {args : Arguments} {body : List Stmt} {ds : List PySem.Expr} {rt : Option PySem.Expr} {tp} {scope : Scope} {tc} {nm : Str} {pos : Pos} {k : SK} (hmod : prog.main.scope.kind = .module) (T : TI prog w h₀ mg₀ c Pl done s.heap mg l) (hk : skOf prog.main.scope (.FunctionDef name args body ds rt tp scope tc nm pos) = some k)
  (hnew : ∀ y ∈ done, y.name ≠ "__name__" → y.name ≠ k.name) (hpl : ∀ p ∈ k.posL, ∀ q ∈ l, ¬ (q.1.line = p.1 ∧ q.1.col = p.2))
  (hQ : ∀ h' mg' tk l', TI prog w h₀ mg₀ c Pl (done ++ [k]) h' mg' l' → (∀ q ∈ l', q ∈ l ∨ (q.1.line, q.1.col) ∈ k.posL) → Q .next { s with heap := h', toks := tk }) :
  wpAny (model prog w) A (exec (.FunctionDef name args body ds rt tp scope tc nm pos) (mainEnv prog c F)) Q (fun z1 z2 => False) s := by
 obtain ⟨h0, hk1⟩ := itn hk
 obtain ⟨hc, hk2⟩ := its hk1
 simp only [Bool.not_eq_false', Bool.and_eq_true, List.isEmpty_iff, Option.isNone_iff_eq_none] at h0
 refine cps fun PP kk => ?_
 obtain ⟨⟨⟨ee1, ee2⟩, ee3⟩, ee4⟩ := h0
 refine kk ?_
 clear kk PP
 subst ee1
 subst ee2
 subst ee3
 subst ee4
 obtain rfl := Option.some.inj hk2
 clear hk hk1 hk2
 simp only [okName, Bool.and_eq_true, beq_iff_eq, bne_iff_ne, ne_eq, List.all_eq_true] at hc
 refine cps fun PP kk => ?_
 obtain ⟨⟨⟨⟨⟨⟨h1, h2⟩, h3⟩, h4⟩, h5⟩, h6⟩, h7⟩ := hc
 refine kk ?_
 clear kk PP
 subst h1
 refine wpAny_def (d := ⟨nm, args, body, scope, pos⟩) ⟨plain_tree h2 h3, fun x hx => h4 x hx, h5.1, h7, h5.2⟩ hmod T.main (by rw [List.toList_toArray]; exact codeAmong_triples _ _ fun q hq => hpl (pos.line, pos.col) (List.mem_cons_self ..) q hq)
  fun a c' doc h₁ tk₁ ha hm₁ hf hc' keep => ?_
 have hPl : Pl < s.heap.objs.size := T.main.code.lt.2
 refine hQ h₁ _ tk₁ (l ++ [(pos, c')]) ⟨by rw [triples_append]; simpa using hm₁, fun b o hP hG e => keep b o hP hG (T.keep b o hP hG e), fun y hy => ?_, fun y hy => ?_⟩ (fun q hq => ?_)
 ·rw [List.map_append, List.mem_append, not_or] at hy
  have hne : y ≠ nm := fun e => hy.2 (by rw [e]; exact List.mem_cons_self ..)
  show (if y = nm then _ else mg y) = _
  rw [if_neg hne]
  exact T.others y hy.1
 ·rcases List.mem_append.mp hy with q | q
  ·exact (T.facts y q).step T.main.low.2 (fun hn' => if_neg (hnew y q hn')) keep
  ·obtain rfl := List.mem_singleton.mp q
   exact ⟨h6, a, _, _, c', doc, if_pos rfl, hf, rfl, hc'.2, Nat.lt_of_lt_of_le hPl ha, Nat.lt_of_lt_of_le hPl hc'.1⟩
 ·rcases List.mem_append.mp hq with q' | q'
  ·exact .inl q'
  ·obtain rfl := List.mem_singleton.mp q'
   exact .inr (List.mem_cons_self ..)
theorem walk (hmod : prog.main.scope.kind = .module) (han : A.handled = none) (O : Out h₀ mg₀ mb Pl) : ∀ (todo : List Stmt) (sks done : List SK) (l : List (Pos × Addr)) (s : Shared) (mg : Str → Option Value) (Q : Flow → Shared → Prop),
  todo.mapM (skOf prog.main.scope) = some sks → (((done ++ sks).map (·.name)).filter (· != ("__name__" : Str))).Nodup → (sks.flatMap (·.posL)).Nodup → (∀ x ∈ sks, ∀ p ∈ x.posL, ∀ q ∈ l, ¬ (q.1.line = p.1 ∧ q.1.col = p.2)) →
  (∀ y ∈ done ++ sks, y.name ≠ "set" ∧ y.name ≠ "list" ∧ y.name ≠ "range") → TI prog w h₀ mg₀ c Pl done s.heap mg l →
  (∀ h' mg' tk l', TI prog w h₀ mg₀ c Pl (done ++ sks) h' mg' l' → Q .next { s with heap := h', toks := tk }) →
  wpAny (model prog w) A (execs todo (mainEnv prog c F)) Q (fun z1 z2 => False) s
 | [], sks, done, l, s, mg, Q, hm, z1, z2, z3, z4, T, hQ => by
  simp only [List.mapM_nil, Option.pure_def, Option.some.injEq] at hm
  subst hm
  rw [List.append_nil] at hQ
  exact wpAny_execs_nil (hQ s.heap mg s.toks l T)
 | st :: todo, sks, done, l, s, mg, Q, hm, hn, hp, hpl, hset, T, hQ => by
  rw [List.mapM_cons] at hm
  cases hk : skOf prog.main.scope st with
  | none => rw [hk] at hm; exact nope hm
  | some k =>
   rw [hk] at hm
   cases hr : todo.mapM (skOf prog.main.scope) with
   | none => rw [hr] at hm; exact nope hm
   | some r =>
    rw [hr] at hm
    obtain rfl : k :: r = sks := by simpa using hm
    have hnew : ∀ y ∈ done, y.name ≠ "__name__" → y.name ≠ k.name := fun y hy hne e => by
     rw [List.map_append, List.filter_append, List.nodup_append] at hn
     refine hn.2.2 y.name ?_ k.name ?_ e
     ·exact List.mem_filter.mpr ⟨List.mem_map_of_mem hy, by simpa using hne⟩
     ·exact List.mem_filter.mpr ⟨by simp, by simpa [← e] using hne⟩
    have hset' : ∀ y ∈ done, y.name ≠ "set" ∧ y.name ≠ "list" ∧ y.name ≠ "range" := fun y hy => hset y (List.mem_append_left _ hy)
    rw [List.flatMap_cons, List.nodup_append] at hp
    have next : ∀ (h' : Heap) (mg' : Str → Option Value) (tk : Nat) (l' : List (Pos × Addr)), TI prog w h₀ mg₀ c Pl (done ++ [k]) h' mg' l' → (∀ q ∈ l', q ∈ l ∨ (q.1.line, q.1.col) ∈ k.posL) →
      wpAny (model prog w) A (execs todo (mainEnv prog c F)) Q (fun z1 z2 => False) { s with heap := h', toks := tk } := fun h' mg' tk l' T' hl' =>
     walk hmod han O todo r (done ++ [k]) l' _ mg' Q hr (by simpa [List.append_assoc] using hn) hp.2.1 (fun x hx p hpx q hq e => by
      rcases hl' q hq with q' | q'
      ·exact hpl x (List.mem_cons_of_mem _ hx) p hpx q q' e
      ·refine hp.2.2 _ q' p (List.mem_flatMap.mpr ⟨x, hx, hpx⟩) ?_
       rw [e.1, e.2]) (by simpa [List.append_assoc] using hset) T' (fun h'' mg'' tk' l'' T'' => hQ h'' mg'' tk' l'' (by simpa [List.append_assoc] using T''))
    refine wpAny_execs_cons ?_
    cases st with
    | FunctionDef name args body ds rt tp scope tc nm pos => exact top_def hmod T hk hnew (fun p hp' => hpl k (List.mem_cons_self ..) p hp') next
    | Assign ts e pos =>
     replace hk := bnd hk
     obtain ⟨t, ht, hk⟩ := hk
     replace hk := bnd hk
     obtain ⟨x, hx, hk⟩ := hk
     replace hk := its hk
     obtain ⟨hok, hk⟩ := hk
     obtain ⟨px, ex⟩ := nameIs_of hx
     rw [sole_of ht, ex]
     exact top_val hmod han O T hok hk (fun y hy hne => by rw [← (valKind_name hk).1]; exact hnew y hy hne) hset' fun h' mg' tk T' => next h' mg' tk l T' fun q hq => .inl hq
    | _ => exact nope hk
end
end Rs.Internal
end
section
set_option tactic.hygienic false
open PySem PySem.Calls PyProof.Rows PySem.SeqAt PySem.Builtin.Str
namespace Rs.Internal
theorem run_life {den : Code → Sem Fin} {prog : Program} {w : World} : ∀ {n : Nat} {s : Shared} {t : Thread} {s' : Shared} {t' : Thread}, runN den prog w n s t = .running s' t' → s'.heap.life = s.heap.life
 | 0, s, t, s', t', h => by
  injection h with e1 e2
  rw [e1]
 | n + 1, s, t, s', t', h => by
  simp only [runN] at h
  cases hs : step den prog w s t with
  | go s₂ t₂ => simp only [hs] at h; exact (run_life h).trans (step_life den prog w s s₂ t t₂ hs)
  | halt o s₂ => simp only [hs] at h; cases h
theorem top_runs {prog : Program} {w : World} {t : Sem Fin} {s : Shared} {R : Shared → Prop} (hz : s.asleep)
  (h : wpAny (model prog w) callerA t (fun fin s' => fin = .done (.ret .none) ∧ s'.gens = #[] ∧ R s') (fun z1 z2 => False) s) :
  ∃ n t' s₁, schedN (denote table) prog w n (.single s ⟨t, .builtin "claim.caller" {}, default, []⟩) = .running (.single s₁ t') ∧ PySem.W.through t' = true ∧ s₁.heap.life = s.heap.life ∧ s₁.gens = #[] ∧ R s₁ := by
 have hin := caller_in
 have hw := h (Ctx.of (.builtin "claim.caller" {}) []) default hin
 refine cps fun PP kk => ?_
 obtain ⟨n, s', σ, p', leaf, hr, hf, hl⟩ := wp_reaches (M := model prog w) hw
 refine kk ?_
 clear kk PP
 rcases hl with ⟨a, rfl, rfl, hg, hR⟩ | ⟨_, _, hx⟩
 ·have hfin : wpAny (model prog w) callerA t (fun fin s' => ∃ f, fin = .done f ∧ ((fun (r : Result) (s' : Shared) => True) (.ok f) s' ∧ leftWithCleanup s'.gens = false)) (fun e s' => (fun (r : Result) (s' : Shared) => True) (.error e) s' ∧ leftWithCleanup s'.gens = false) s :=
   wpAny_mono h (fun fin s' x => ⟨_, x.1, trivial, by rw [x.2.1]; delta leftWithCleanup; rw [← Array.any_toList]; rfl⟩) fun z1 z2 x => x.elim
  refine cps fun PP kk => ?_
  obtain ⟨m, r, s₁, hm, _⟩ := (wp_iff_halts (M := model prog w) t (fun r s' => True) default s).mp (wp_of_wpAny_done (R := fun r s' => True ∧ leftWithCleanup s'.gens = false) caller_in hfin default)
  refine kk ?_
  clear kk PP
  have ho := outcomeOf_ends r
  refine cps fun PP kk => ?_
  obtain ⟨s₂, hn, _, hc⟩ := runNI_real (denote table) prog w hm ho
  refine kk ?_
  clear kk PP
  have hne : ∀ k s₂, runN (denote table) prog w k s ⟨t, .builtin "claim.caller" {}, default, []⟩ ≠ .halted (.unsupported "lifetime:generator-with-cleanup-left-suspended") s₂ := by
   intro k s₃ hk
   have a := runN_mono (denote table) prog w m k _ _ _ _ hn
   have b := runN_mono (denote table) prog w k m _ _ _ s₃ hk
   rw [Nat.add_comm, b] at a
   injection a with a1 _
   rw [← a1] at ho; exact absurd ho (by simp [Outcome.ends])
  have hs := schedN_eq_runN (denote table) prog w s _ hz ⟨hc, hne⟩ n
  have hr' : runN (denote table) prog w n s ⟨t, .builtin "claim.caller" {}, default, []⟩ = .running σ ⟨.pure (.done (.ret .none)), .builtin "claim.caller" {}, p', []⟩ := hr
  rw [hr'] at hs
  obtain rfl := Shared.eq_of_forget_eq hf hg
  exact ⟨n, _, σ, hs, rfl, run_life hr', hg, hR⟩
 ·exact hx.elim
end Rs.Internal
end
section
set_option tactic.hygienic false
open PySem PySem.Calls PyProof.Rows PySem.SeqAt PySem.Builtin.Str
namespace Rs.Internal
structure TopOk (prog : Program) (sks : List SK) : Prop where
 hmod : prog.main.scope.kind = .module
 open1 : prog.main.body.takeWhile PySem.W.opensTheText = []
 behind : PySem.W.behindTheImports prog = prog.main.body
 imps : importedModules prog.main.body = []
 nump : prog.main.body.any namesNumpy = false
 ann : hasAnns prog.main.body = false
 doc : docOf prog.main.body = none
 more : prog.main.more = []
 all : prog.main.body.mapM (skOf prog.main.scope) = some sks
 nd : ((sks.map (·.name)).filter (· != ("__name__" : Str))).Nodup
 pos : (sks.flatMap (·.posL)).Nodup
 noset : ∀ y ∈ sks, y.name ≠ "set" ∧ y.name ≠ "list" ∧ y.name ≠ "range"
 start : ∀ x ∈ bootMainNames, x ≠ "__name__" → x ∉ sks.map (·.name)
noncomputable def Behind (prog : Program) (w : World) (sks : List SK) (mg : Str → Option Value) (s s' : Shared) : Prop :=
 ∃ h' tk, s' = { s with heap := h', toks := tk } ∧ 1 ≤ tk ∧ (∀ b o, b ≠ mainGlobals → s.heap.get? b = some o → h'.get? b = some o) ∧
  ∃ mg' Pl, h'.Ns mainGlobals mg' ∧ mainGlobals < Pl ∧ (∀ x ∈ sks, FactK prog w Pl mg' h' x) ∧ (∀ x, x ∉ sks.map (·.name) → mg' x = mg x)
section
variable {prog q : Program} {w : World} {s : Shared} {mb mg : Str → Option Value} {c₀ Pl₀ : Addr} {sks : List SK}
theorem module_toks {m : Module} {A : Around} {Q : Value → Shared → Prop} {M : Model} {s : Shared}
  (hQ : ∀ c P h' tk, 1 ≤ tk → (∀ b o, s.heap.get? b = some o → h'.get? b = some o) → s.heap.objs.size ≤ c → s.heap.objs.size ≤ P → h'.IsCode c P #[] →
   Q (.ref c) { s with heap := h', toks := tk }) : wpAny M A (moduleCode m) Q (fun z1 z2 => False) s := by
 have h : wpAny M A (moduleCode m) (fun v s' => 1 ≤ s'.toks ∧ ∃ c P h' tk, v = .ref c ∧ s' = { s with heap := h', toks := tk } ∧ (∀ b o, s.heap.get? b = some o → h'.get? b = some o) ∧ s.heap.objs.size ≤ c ∧ s.heap.objs.size ≤ P ∧ h'.IsCode c P #[]) (fun z1 z2 => False) s := by
  unfold moduleCode
  refine wpAny_bind (wpAny_fresh ?_)
  refine wpAny_mono (E := fun z1 s' => 1 ≤ s'.toks ∧ False) (wpAny_toks_of (n := 1) (Nat.succ_le_succ (Nat.zero_le _)) (wpAny_newCode fun c P h' tk hk hc hP hcode z1 => ?_)) (fun z1 z2 x => x) fun z1 z2 x => x.2
  exact ⟨c, P, h', tk, rfl, rfl, hk, hc, hP, hcode⟩
 refine wpAny_mono h (fun v s' x => ?_) fun z1 z2 x => x
 refine cps fun PP kk => ?_
 obtain ⟨h1, c, P, h', tk, ee1, ee2, a, b, c', d⟩ := x
 refine kk ?_
 clear kk PP
 subst ee1
 subst ee2
 exact hQ c P h' tk h1 a b c' d
theorem stub_runs (O : TopOk prog sks) (hB : BootLeft9 q s.heap mb mg c₀ Pl₀) (hg : s.gens = #[]) :
  wpAny (model prog w) callerA (PySem.W.topStub prog).cur (fun fin s' => fin = .done (.ret .none) ∧ s'.gens = #[] ∧ Behind prog w sks mg s s') (fun z1 z2 => False) s := by
 unfold PySem.W.topStub
 dsimp only
 rw [O.behind]
 refine wpAny_bind (module_toks fun c Pl h₁ tk₁ ht1 hk hc hPl hcode => ?_)
 have hb : ∀ {a : Addr} {m : Str → Option Value}, s.heap.Ns a m → h₁.Ns a m := fun x => x.at fun o => hk _ o
 unfold newBodyFrame
 refine wpAny_bind (wpAny_bind (wpAny_nsGet (s := { s with heap := h₁, toks := tk₁ }) (hb hB.g) (wpAny_alloc ?_)))
 refine wpAny_bind (wpAny_run (codeAny_body O.ann O.doc ?_))
 have hlow : mainGlobals < c ∧ mainGlobals < Pl := ⟨Nat.lt_of_lt_of_le hB.g.lt hc, Nat.lt_of_lt_of_le hB.g.lt hPl⟩
 let h₂ := h₁.push { cls := .type "frame", slots := #[some (.ref c), some (.ref mainGlobals), some (.ref mainGlobals), none, some ((mg "__name__").getD .none), none, some (.ref builtinsNs)] }
 have up : ∀ b o, s.heap.get? b = some o → h₂.get? b = some o := fun b o e => Heap.get?_push_of_some _ (hk b o e)
 refine cps fun PP kk => ?_
 obtain ⟨bm, obm, hbm, hne0, hneG, hneP, hbo, hrest⟩ := hB.bmod
 refine kk ?_
 clear kk PP
 have hM : h₂.Main mg c Pl (triples []).toArray := ⟨hB.g.at fun o => up _ o, hcode.push _, hlow,
  ⟨bm, obm, hbm, hne0, hneG, Nat.ne_of_lt (Nat.lt_of_lt_of_le (Heap.lt_size hbo) hPl), up _ _ hbo, hrest⟩⟩
 obtain ⟨mm, hmm, _⟩ := hB.noThreading
 have bn : ∀ x : Str, x ∉ bootMainNames → mg x = none := hB.others
 have OO : Out h₂ mg mb Pl := {
  bi := hB.b.at fun o => up _ o
  b1 := (hB.builtins _ (by decide)).trans (by rfl)
  b2 := (hB.builtins _ (by decide)).trans (by rfl)
  b3 := (hB.builtins _ (by decide)).trans (by rfl)
  f1 := bn _ (by decide)
  f2 := bn _ (by decide)
  f3 := bn _ (by decide)
  low := ⟨Nat.ne_of_lt (Nat.lt_trans (by decide) hlow.2), Nat.ne_of_lt (Nat.lt_trans (by decide) hlow.2)⟩
  mods := let ⟨o, _, _, ho, _⟩ := hmm; ⟨o, up _ _ ho⟩ }
 have T : TI prog w h₂ mg c Pl [] h₂ mg [] := ⟨hM, fun z1 z2 z3 z4 e => e, fun z1 z2 => rfl, fun z1 m => absurd m List.not_mem_nil⟩
 refine wpAny_mono (E := fun z1 s' => 1 ≤ s'.toks ∧ False) (wpAny_toks_of (n := 1) ht1 (walk (A := _) (Q := fun fl s' => ∃ h' mg' tk l', fl = .next ∧ s' = { s with heap := h', toks := tk } ∧ TI prog w h₂ mg c Pl sks h' mg' l') O.hmod rfl OO prog.main.body sks [] [] _ mg O.all (by simpa using O.nd) O.pos (fun x hx p hp q hq => absurd hq List.not_mem_nil) (by simpa using O.noset) T fun h' mg' tk l' T' => ⟨h', mg', tk, l', rfl, rfl, by simpa using T'⟩)) (fun fl s' x => ?_) fun z1 z2 x => x.2.elim
 refine cps fun PP kk => ?_
 obtain ⟨htk, h', mg', tk, l', ee1, ee2, T'⟩ := x
 refine kk ?_
 clear kk PP
 subst ee1
 subst ee2
 refine wpAny_pure ⟨rfl, hg, h', tk, rfl, htk, fun b o hb e => T'.keep b o ?_ hb (up b o e), mg', Pl, T'.main.g, hlow.2, T'.facts, T'.others⟩
 exact Nat.ne_of_lt (Nat.lt_of_lt_of_le (Heap.lt_size e) hPl)
end
end Rs.Internal
end
section
set_option tactic.hygienic false
open PySem PySem.Calls PyProof.Rows PySem.SeqAt PySem.Builtin.Str
open PySem.Claim2Try (globalOf_of_ns)
open PySem.Pin
namespace Rs.Internal
structure After (prog : Program) (w : World) (sks : List SK) (mg mb : Str → Option Value) (h : Heap) : Prop where
 ns : h.Ns mainGlobals mg
 bi : h.Ns builtinsNs mb
 boot : ∀ x : Str, x ≠ "__name__" → mb x = bootBuiltins x
 st : h.Ns cStatics fun _ => none
 facts : ∃ k, ∀ x ∈ sks, FactK prog w k mg h x
 free : ∀ x, x ∉ sks.map (·.name) → x ∉ bootMainNames → mg x = none
theorem sk_local {sc : Scope} {st : Stmt} {k : SK} (h : skOf sc st = some k) : sc.names.lookup k.name = some .local := by
 cases st with
 | FunctionDef name args body ds rt tp scope tc nm pos =>
  replace h := its (itn h).2
  obtain ⟨hc, h⟩ := h
  rw [← Option.some.inj h]
  simp only [Bool.and_eq_true, okName, beq_iff_eq] at hc
  exact hc.1.1.2.1
 | Assign ts e pos =>
  replace h := bnd h
  obtain ⟨t, ht, h⟩ := h
  replace h := bnd h
  obtain ⟨x, hx, h⟩ := h
  replace h := its h
  obtain ⟨hc, h⟩ := h
  rw [(valKind_name h).1]
  rw [okName, Bool.and_eq_true, beq_iff_eq] at hc
  exact hc.1
 | _ => exact nope h
theorem mapM_mem {α β : Type} {f : α → Option β} : ∀ {l : List α} {r : List β}, l.mapM f = some r → ∀ y ∈ r, ∃ x ∈ l, f x = some y
 | [], r, h, y, hy => by
  simp only [List.mapM_nil, Option.pure_def, Option.some.injEq] at h
  subst h; exact absurd hy List.not_mem_nil
 | x :: l, r, h, y, hy => by
  rw [List.mapM_cons] at h
  cases hx : f x with
  | none => rw [hx] at h; exact nope h
  | some z =>
   rw [hx] at h
   cases hl : l.mapM f with
   | none => rw [hl] at h; exact nope h
   | some q =>
    rw [hl] at h
    obtain rfl : z :: q = r := by simpa using h
    rcases List.mem_cons.mp hy with rfl | m
    ·exact ⟨x, List.mem_cons_self .., hx⟩
    ·obtain ⟨x', a, b⟩ := mapM_mem hl y m
     exact ⟨x', List.mem_cons_of_mem _ a, b⟩
section
variable {prog : Program} {w : World} {sks : List SK}
theorem open_body (O : TopOk prog sks) : (PySem.W.opening prog).main.body = [] := O.open1
theorem opened (O : TopOk prog sks) (w : World) : (∃ s, AfterRun (PySem.W.opening prog) w s) ∧ ∀ s, AfterRun (PySem.W.opening prog) w s → (∃ mb mg c Pl, BootLeft9 (PySem.W.opening prog) s.heap mb mg c Pl) ∧ s.gens = #[] :=
 AfterImport.of_body9 (prog := PySem.W.opening prog) (w := w) (P := fun s => (∃ mb mg c Pl, BootLeft9 (PySem.W.opening prog) s.heap mb mg c Pl) ∧ s.gens = #[]) (out := #[]) (fun hp tk mb mg c Pl F hB => by
  rw [open_body O]
  refine codeAny_body rfl rfl (wpAny_execs_nil ?_)
  exact ⟨⟨_, rfl⟩, .of hB.toBootLeft (fun z1 z2 z3 z4 e => e) hB.g, ⟨⟨mb, mg, c, Pl, hB⟩, rfl⟩, rfl⟩) O.more
theorem head (O : TopOk prog sks) (w : World) : (∃ s, AfterRun (PySem.W.opening prog) w s) ∧ ∀ s, AfterRun (PySem.W.opening prog) w s → ∃ s₀, fenceModules? prog s = some s₀ ∧ s₀.gens = #[] ∧
  ∃ s₁, PySem.W.TopRan prog w s₀ s₁ ∧ s₁.asleep ∧ s₁.gens = #[] ∧ 1 ≤ s₁.toks ∧ ∃ mg mb, After prog w sks mg mb s₁.heap := by
 refine ⟨(opened O w).1, fun s hs => ⟨s, ?_, ?_⟩⟩
 ·unfold fenceModules?
  rw [O.imps, O.nump]
  rfl
 obtain ⟨⟨mb, mg, c, Pl, hB⟩, hg⟩ := (opened O w).2 s hs
 refine ⟨hg, ?_⟩
 have hz : s.asleep := AfterImport.life hs
 obtain ⟨n, t', s₁, hrun, hth, hlife, hg₁, h', tk, e, htk, keep, mg', k, hns, hk, hfacts, hoth⟩ := top_runs hz (stub_runs (q := PySem.W.opening prog) O hB hg)
 have p0 : builtinsNs ≠ mainGlobals := by decide
 have p2 : cStatics ≠ mainGlobals := by decide
 have hb' : h'.Ns builtinsNs mb := hB.b.at fun o => keep _ o p0
 have hc' : h'.Ns cStatics (fun z1 => none) := hB.statics.at fun o => keep _ o p2
 have heap : s₁.heap = h' := by rw [e]
 have free : ∀ x, x ∉ sks.map (·.name) → x ∉ bootMainNames → mg' x = none := fun x hx hx' => (hoth x hx).trans (hB.others x hx')
 have glob : ∀ x, globalOf s₁.heap x = mg' x := fun x => by rw [heap]; exact globalOf_of_ns hns x
 have glob0 : ∀ x, globalOf s.heap x = mg x := fun x => globalOf_of_ns hB.g x
 obtain ⟨bm, o, hbm, hne0, hneG, hneP, hbo, hcls, hdict, _⟩ := hB.bmod
 have laid : ∀ x ∈ PySem.W.laidNames, x ∈ bootMainNames ∧ x ≠ "__name__" := by decide
 refine ⟨s₁, ⟨⟨n, t', hrun, hth⟩, hlife, by rw [e]; rfl, fun b o' hbo' hno => ?_, ?_, ?_, ?_, ?_, ?_, ?_, ?_, ?_⟩, Shared.asleep_of_life hlife hz, hg₁, by rw [e]; exact htk, mg', mb, ?_⟩
 ·rw [heap]
  exact keep b o' (fun hb => hno (.inl hb)) hbo'
 ·rw [heap]
  intro key v hv
  rw [staticOf_of_ns hc'] at hv; exact nope hv
 ·intro key
  refine .inl ?_
  rw [heap, staticOf_of_ns hc', staticOf_of_ns hB.statics]
 ·rw [heap]; exact keysAreStrs_of_ns hns
 ·rw [heap]
  exact fun x hx => (builtinOf_of_ns hb' x).trans (hB.builtins x hx)
 ·refine ⟨bm, o, ?_, by rw [heap]; exact keep _ _ hneG hbo, hcls, hdict⟩
  rw [glob, hoth _ (O.start _ (by decide) (by decide))]
  exact hbm
 ·intro g hgm
  rw [hg₁] at hgm
  exact absurd hgm (by simp)
 ·intro x v hv
  rw [glob] at hv
  by_cases h1 : x ∈ sks.map (·.name)
  ·right
   obtain ⟨y, hy, rfl⟩ := List.mem_map.mp h1
   obtain ⟨st, _, hst⟩ := mapM_mem O.all y hy
   have := mem_of_lookup (sk_local hst)
   unfold Program.boundNames
   exact List.mem_map.mpr ⟨(y.name, .local), List.mem_filter.mpr ⟨this, rfl⟩, rfl⟩
  ·left
   by_cases h2 : x ∈ bootMainNames
   ·exact h2
   ·rw [free x h1 h2] at hv; exact nope hv
 ·intro x hx
  have := laid x hx
  rw [glob, glob0, hoth x (O.start x this.1 this.2)]
 ·rw [heap]
  exact ⟨hns, hb', hB.builtins, hc', ⟨k, hfacts⟩, free⟩
end
end Rs.Internal
end
section
set_option tactic.hygienic false
set_option backward.match.sparseCases false
open PySem PySem.Calls PyProof.Rows PySem.SeqAt PySem.Builtin.Str
namespace Rs.Internal
noncomputable def tabR (gl fn : List Str) : List Stmt → Option (List Fn)
 | [] => some []
 | st :: r => match defName st with
  | some z1 => (cFn gl fn st).bind fun x => (tabR gl fn r).map (x.2 :: ·)
  | none => tabR gl fn r
theorem cFn_iff {gl fn : List Str} {st : Stmt} {q : Str × Fn} (h : cFn gl fn st = some q) : ∃ args body sc nm pos B, st = .FunctionDef q.1 args body [] none [] sc none nm pos ∧ plainArgs args = true ∧ defScopeOk sc (args.args.map (·.arg)) = true ∧
  cSs 60 { kind := sc.names, nm := slotNames (args.args.map (·.arg)) sc, own := (ownIns 60 body).eraseDups, gl := gl, fn := fn } body = some B ∧ q.2 = { np := (args.args.map (·.arg)).length, ns := (slotNames (args.args.map (·.arg)) sc).length, body := B } := by
 cases st with
 | FunctionDef name args body ds rt tp sc tc nm pos =>
  replace h := itn h
  obtain ⟨h0, h⟩ := h
  replace h := itn h
  obtain ⟨hc, h⟩ := h
  replace h := bnd h
  obtain ⟨B, hB, h⟩ := h
  simp only [Bool.not_eq_false', Bool.and_eq_true, List.isEmpty_iff, Option.isNone_iff_eq_none] at h0
  rw [Bool.or_eq_false_iff, Bool.or_eq_false_iff, Bool.not_eq_false', Bool.not_eq_false'] at hc
  rw [h0.1.1.1, h0.1.1.2, h0.1.2, h0.2, ← Option.some.inj h]
  exact ⟨args, body, sc, nm, pos, B, rfl, hc.1.1, hc.1.2, hB, rfl⟩
 | _ => exact nope h
theorem tabR_at {gl fn : List Str} : ∀ {l : List Stmt} {T : List Fn}, tabR gl fn l = some T → ∀ (k : Nat) (x : Str), (defNms l)[k]? = some x → ∃ st ∈ l, ∃ f, cFn gl fn st = some (x, f) ∧ T[k]? = some f
 | [], T, h, k, x, hx => nomatch hx
 | st :: r, T, h, k, x, hx => by
  replace h : (match defName st with
   | some z1 => (cFn gl fn st).bind fun x => (tabR gl fn r).map (x.2 :: ·)
   | none => tabR gl fn r) = some T := h
  replace hx : (match defName st with
   | some name => name :: defNms r
   | none => defNms r)[k]? = some x := hx
  cases hd : defName st with
  | some a =>
   rw [hd] at h hx
   replace h := bnd h
   obtain ⟨y, hy, h⟩ := h
   replace h := mpd h
   obtain ⟨T', hT, rfl⟩ := h
   cases k with
   | zero =>
    have hn : y.1 = x := by
     refine cps fun PP kk => ?_
     obtain ⟨_, _, _, _, _, _, e, _⟩ := cFn_iff hy
     refine kk ?_
     clear kk PP
     rw [e] at hd
     exact (Option.some.inj hd).trans (Option.some.inj hx)
    exact ⟨st, List.mem_cons_self .., y.2, by rw [hy, ← hn], rfl⟩
   | succ k =>
    refine cps fun PP kk => ?_
    obtain ⟨st', h1, f', h2, h3⟩ := tabR_at hT k x hx
    refine kk ?_
    clear kk PP
    exact ⟨st', List.mem_cons_of_mem _ h1, f', h2, h3⟩
  | none =>
   rw [hd] at h hx
   refine cps fun PP kk => ?_
   obtain ⟨st', h1, f', h2⟩ := tabR_at h k x hx
   refine kk ?_
   clear kk PP
   exact ⟨st', List.mem_cons_of_mem _ h1, f', h2⟩
noncomputable def glsK (sks : List SK) : List (Str × PV) := sks.filterMap fun | .con x p => if x = ("__name__" : Str) then none else some (x, p) | z1 => none
theorem mapM_of_mem {α β : Type} {f : α → Option β} : ∀ {l : List α} {r : List β}, l.mapM f = some r → ∀ x ∈ l, ∃ y ∈ r, f x = some y
 | [], r, h, x, hx => absurd hx List.not_mem_nil
 | x :: l, r, h, y, hy => by
  rw [List.mapM_cons] at h
  cases hx : f x with
  | none => rw [hx] at h; exact nope h
  | some z =>
   rw [hx] at h
   cases hl : l.mapM f with
   | none => rw [hl] at h; exact nope h
   | some q =>
    rw [hl] at h
    obtain rfl : z :: q = r := by simpa using h
    rcases List.mem_cons.mp hy with rfl | m
    ·exact ⟨z, List.mem_cons_self .., hx⟩
    ·obtain ⟨y', a, b⟩ := mapM_of_mem hl y m
     exact ⟨y', List.mem_cons_of_mem _ a, b⟩
theorem sk_fn {sc : Scope} {name : Str} {args : Arguments} {body : List Stmt} {scope : Scope} {nm : Str} {pos : Pos} {k : SK} (h : skOf sc (.FunctionDef name args body [] none [] scope none nm pos) = some k) :
  k = .fn ⟨name, args, body, scope, pos⟩ := by
 exact (Option.some.inj (its (show (if _ = true then some (SK.fn ⟨name, args, body, scope, pos⟩) else none) = some k from h)).2).symm
section
variable {prog : Program} {w : World} {sks : List SK} {mg mb : Str → Option Value} {h : Heap}
theorem def_at {d : DefRec} {k : Addr} (hf : h.HasFn mg k d) (hp : plainArgs d.params = true) (hs : DScOk d.scope (d.params.args.map (·.arg))) : ∃ f, mg d.name = some (.ref f) ∧ DefAt h f (d.params.args.map (·.arg)) d.scope d.body := by
 refine cps fun PP kk => ?_
 obtain ⟨a, o, pm, code, doc, h1, h2, h3, h4, _, _⟩ := hf
 refine kk ?_
 clear kk PP
 refine ⟨a, h1, ⟨o, _, h2, h3, rfl, rfl, rfl, rfl, rfl, h4, fun vals hl => ?_⟩⟩
 have : d.params = ⟨[], d.params.args, none, [], [], none, []⟩ := by
  refine cps fun PP kk => ?_
  obtain ⟨nm, ⟨po, as, va, ko, kd, kw, ds⟩, b, s, p⟩ := d
  refine kk ?_
  clear kk PP
  simp only [plainArgs, Bool.and_eq_true, List.isEmpty_iff, Option.isNone_iff_eq_none] at hp
  refine cps fun PP kk => ?_
  obtain ⟨⟨⟨⟨⟨⟨q1, q2⟩, q3⟩, q4⟩, q5⟩, q6⟩, q7⟩ := hp
  refine kk ?_
  clear kk PP
  subst q1 q2 q3 q4 q5 q6; rfl
 exact bind_plain this rfl hs.pnodup hl
structure TabOk (sks : List SK) (G : Gl) (gl : List Str) : Prop where
 gl : gl = (glsK sks).map (·.1)
 const : G.const = (glsK sks).map (·.2)
 b1 : ∃ is, SK.set "b1_set" is ∈ sks ∧ ∀ i, G.b1 i = is.contains i
 b3 : ∃ l, SK.dict "b3_exceptions" l ∈ sks ∧ ∀ i, G.b3 i = (l.find? fun x => x.1 = i).map fun x => x.2.cps.toList
theorem firstMet_mem (is : List Int) (k : Int) : (firstMet (fun i => is.getD i 0) is.length).any (· == k) = is.contains k := by
 rw [firstMet_any]
 have : (List.range is.length).map (fun i => is.getD i 0) = is := by
  apply List.ext_getElem (by simp)
  intro i h1 h2
  simp only [List.getElem_map, List.getElem_range, List.getD_eq_getElem?_getD, List.getElem?_eq_getElem h2, Option.getD_some]
 rw [this, Bool.eq_iff_iff, List.any_eq_true]
 simp
set_option tactic.hygienic true in
theorem base_of {G : Gl} {gl fn : List Str} {T : List Fn} (O : TopOk prog sks) (a : After prog w sks mg mb h) (tk : TabOk sks G gl) (hfn : fn = defNms prog.main.body) (hT : tabR gl fn prog.main.body = some T)
  (hpl : ∀ x ∈ plainNames, x ∉ sks.map (·.name) ∧ x ∉ bootMainNames)
  (left : ∀ (A : Around) (h' : Heap) (d : Addr) (f : Int → Option Value) (e : Addr) (S : Int → Bool) (n : Nat), A.handled = none → A.units + 2 < cLine → Above h h' → mg "b1_set" = some (.ref e) → h'.SetOf (intKind prog w) e S n → (∀ i, S i = G.b1 i) →
   mg "b3_exceptions" = some (.ref d) → h'.MapOf (intKind prog w) d f → (d == sysModules) = false → (∀ i, match f i with | some v => ∃ t tok, G.b3 i = some t ∧ v = .str ⟨t.toArray⟩ tok | none => G.b3 i = none) → h'.Ns mainGlobals mg → h'.Ns builtinsNs mb → Left prog w A G h' gl fn mg mb) :
  Base prog w G h gl fn T mg mb where
 ns := a.ns
 bi := a.bi
 boot := a.boot
 nolimit := ⟨_, a.st, rfl⟩
 const := fun i x p hx hp => by
  rw [tk.gl, List.getElem?_map] at hx
  rw [tk.const, List.getElem?_map] at hp
  cases hz : (glsK sks)[i]? with
  | none => rw [hz] at hx; exact nope hx
  | some z =>
   rw [hz] at hx hp
   obtain rfl : z.1 = x := by simpa using hx
   obtain rfl : z.2 = p := by simpa using hp
   have hm := List.mem_of_getElem? hz
   obtain ⟨k, hk, e⟩ := List.mem_filterMap.mp hm
   obtain ⟨kk, hf⟩ := a.facts
   cases k with
   | con x p =>
    dsimp only at e
    split at e
    ·exact nope e
    ·rename_i hn
     obtain rfl := oi e
     rcases hf _ hk with q | q
     ·exact absurd q hn
     ·exact q
   | fn d => exact nope e
   | dict x l => exact nope e
   | set x l => exact nope e
 defs := fun k x hx => by
  rw [hfn] at hx
  refine cps fun PP kk => ?_
  obtain ⟨st, hst, f, hc, hTk⟩ := tabR_at hT k x hx
  refine kk ?_
  clear kk PP
  refine cps fun PP kk => ?_
  obtain ⟨args, body, sc, nm, pos, B, ee1, h1, h2, h3, e0⟩ := cFn_iff hc
  refine kk ?_
  clear kk PP
  subst ee1
  obtain rfl : f = _ := e0
  obtain ⟨y, hy, hs⟩ := mapM_of_mem O.all _ hst
  obtain rfl := sk_fn hs
  obtain ⟨kk, hf⟩ := a.facts
  have hsc := defScopeOk_iff h2
  obtain ⟨fa, e1, e2⟩ := def_at (d := ⟨x, args, body, sc, pos⟩) (hf _ hy).2 h1 hsc
  exact ⟨fa, _, sc, body, _, 60, B, e1, e2, hsc, h3, hTk⟩
 free := fun x hx => a.free x (hpl x hx).1 (hpl x hx).2
 left := fun A h' hh hu hab => by
  obtain ⟨kk, hf⟩ := a.facts
  obtain ⟨is, hs, hG1⟩ := tk.b1
  obtain ⟨l, hd, hG3⟩ := tk.b3
  refine cps fun PP kk => ?_
  obtain ⟨_, e, n, hv1, _, _, hS⟩ := hf _ hs
  refine kk ?_
  clear kk PP
  refine cps fun PP kk => ?_
  obtain ⟨_, d, kvs, hv3, _, _, hD, hV, hlo⟩ := hf _ hd
  refine kk ?_
  clear kk PP
  refine left A h' d _ e _ n hh hu hab hv1 (setOf_above hab hS) (fun i => by rw [hG1, firstMet_mem]) hv3 (mapOf_above hab hD.mapOf) hlo (fun i => ?_) (a.ns.at fun o => hab _ o) (a.bi.at fun o => hab _ o)
  have := hV.val i
  rw [hG3]
  cases hq : valueAt kvs i with
  | none =>
   rw [hq] at this
   cases hfd : l.find? (fun x => x.1 = i) with
   | none => rfl
   | some z => rw [hfd] at this; cases this
  | some v =>
   rw [hq] at this
   refine cps fun PP kk => ?_
   obtain ⟨t, tok, e1, ee2⟩ := this
   refine kk ?_
   clear kk PP
   subst ee2
   cases hfd : l.find? (fun x => x.1 = i) with
   | none => rw [hfd] at e1; exact nope e1
   | some z =>
    rw [hfd] at e1
    obtain rfl : z.2 = t := by simpa using e1
    exact ⟨z.2.cps.toList, tok, rfl, by cases z.2; simp⟩
end
end Rs.Internal
end
section
set_option tactic.hygienic false
open PySem PySem.W PySem.Calls PyProof.Rows PySem.SeqAt PySem.Builtin.Str
open PySem.Claim2Try (globalOf_of_ns)
namespace Rs.Internal
theorem lay_ints {R : WRecords} {cl : Str → Option Addr} {P : Params} {ord : List DictEntry → List DictEntry} : ∀ (ns : List Int) (s : Shared), ∃ vals tk, layAllW R cl P ord (ns.map .int) s = some (vals, { s with toks := tk }) ∧ s.toks ≤ tk ∧
  (∀ (O : List Addr) (h : Heap), RelL O h (ns.map .int) vals) ∧ ∀ (R : WRecords) (cl : Str → Option Addr) (h : Heap), ReadsAllW R cl h vals (ns.map .int) [] := by
 intro ns
 induction ns with
 | nil =>
  intro s
  exact ⟨[], s.toks, rfl, Nat.le_refl _, fun z1 z2 => rfl, fun z1 z2 z3 => .nil⟩
 | cons n ns ih__ =>
  intro s
  refine cps fun PP kk => ?_
  obtain ⟨vals, tk, h1, h2, h3, h4⟩ := ih__ { s with toks := s.toks + 1 }
  refine kk ?_
  clear kk PP
  refine ⟨.int n s.toks :: vals, tk, ?_, Nat.le_trans (Nat.le_succ _) h2, fun O h => ⟨_, _, rfl, ⟨_, rfl⟩, h3 O h⟩, fun R cl h => ReadsAllW.cons (.int _ _) (h4 R cl h)⟩
  simp only [List.map_cons, layAllW, layW, h1]
theorem items_ints {R : WRecords} : ∀ {xs : List WData}, WShape.hasItems R xs .int = true → ∃ ns : List Int, xs = ns.map .int := by
 intro xs
 induction xs with
 | nil =>
  intro _
  exact ⟨[], rfl⟩
 | cons x xs ih__ =>
  intro h
  simp only [WShape.hasItems, Bool.and_eq_true] at h
  obtain ⟨i, rfl⟩ := hasW_int h.1
  obtain ⟨ns, rfl⟩ := ih__ h.2
  exact ⟨i :: ns, rfl⟩
structure LawOk (l : OpenLaw) (d : DefRec) (sks : List SK) : Prop where
 said : l.wellSaid = true
 bare : l.prog.bare
 opens : opensWell l.prog = true
 prom : l.row.toRowW.promised
 most : l.most = some 63
 bound : l.bound = none
 wr : l.writes = false
 top : TopOk l.prog sks
 law : SK.fn d ∈ sks
 name : d.name = l.name
 the : l.prog.theDef l.name = some (d.params, d.body, d.scope)
 plain : plainArgs d.params = true
theorem law_holds {l : OpenLaw} {d : DefRec} {sks : List SK} {G : Gl} {gl fn : List Str} {T : List Fn} {F n li : Nat} (L : LawOk l d sks) (tk : TabOk sks G gl) (hfn : fn = defNms l.prog.main.body) (hT : tabR gl fn l.prog.main.body = some T)
  (hpl : ∀ x ∈ plainNames, x ∉ sks.map (·.name) ∧ x ∉ bootMainNames) (hli : fn[li]? = some l.name) (hn : n ≤ 200)
  (left : ∀ (w : World) (mg mb : Str → Option Value) (A : Around) (h' : Heap) (d : Addr) (f : Int → Option Value) (e : Addr) (S : Int → Bool) (n : Nat), A.handled = none → A.units + 2 < cLine → mg "b1_set" = some (.ref e) → h'.SetOf (intKind l.prog w) e S n → (∀ i, S i = G.b1 i) →
   mg "b3_exceptions" = some (.ref d) → h'.MapOf (intKind l.prog w) d f → (d == sysModules) = false → (∀ i, match f i with | some v => ∃ t tok, G.b3 i = some t ∧ v = .str ⟨t.toArray⟩ tok | none => G.b3 i = none) → h'.Ns mainGlobals mg → h'.Ns builtinsNs mb → (∀ x ∈ plainNames, mg x = none) → (∀ x : Str, x ≠ "__name__" → mb x = bootBuiltins x) → Left l.prog w A G h' gl fn mg mb)
  (math : ∀ ns : List Int, ns.length ≤ 63 → callN G T F n li [.lst (ns.map .int)] = some (.bool true)) : l.Holds := by
 refine holds_law L.said fun hr => ⟨hr, L.prom, ⟨⟨L.bare, L.opens, rfl⟩, L.prom.witness, fun w => ⟨(head L.top w).1, fun s hs => ?_⟩⟩⟩
 obtain ⟨s₀, hf, hg0, s₁, hTop, hz, hg1, ht1, mg, mb, a⟩ := (head L.top w).2 s hs
 have hfree : ∀ x ∈ plainNames, mg x = none := fun x hx => a.free x (hpl x hx).1 (hpl x hx).2
 have B : Base l.prog w G s₁.heap gl fn T mg mb := base_of L.top a tk hfn hT hpl fun A h' d f e S n h1 h2 h3 h4 h5 h6 h7 h8 h9 h10 h11 h12 => left w mg mb A h' d f e S n h1 h2 h4 h5 h6 h7 h8 h9 h10 h11 h12 hfree a.boot
 refine ⟨s₀, hf, hg0, s₁, hTop, fun m hm => ?_, (fun x hx => nomatch hx), (fun x hx => nomatch hx), ?_⟩
 ·obtain rfl : m = l.name := by simpa [OpenLaw.row] using hm
  obtain ⟨k, hk⟩ := a.facts
  obtain ⟨hne, fa, o, pm, code, doc, h1, h2, h3, h4, _⟩ := hk _ L.law
  have hp := L.plain
  simp only [plainArgs, Bool.and_eq_true, List.isEmpty_iff, Option.isNone_iff_eq_none] at hp
  refine ⟨fa, o, _, d.params, d.body, d.scope, (globalOf_of_ns a.ns _).trans (by rw [← L.name]; exact h1), h2, h3, L.the, L.name, L.name, rfl, rfl, rfl, rfl, rfl, rfl, .inl ⟨hp.1.2, rfl⟩, [], ?_, .inl ⟨rfl, rfl⟩⟩
  rw [hp.1.1.1.1.2, hp.1.1.1.2]; rfl
 ·refine ClaimW.callFrom_of_specG (c := l.row.toRowW.claim) hz hg1 fun args hpre hlay ord hord => ?_
  obtain ⟨p1, p2⟩ := pre_splitW hpre
  obtain ⟨da, r, rfl, q1, q2⟩ := hasAllW_cons p1
  obtain rfl := hasAllW_nil q2
  obtain ⟨xs, rfl, q3⟩ := hasW_list q1
  obtain ⟨ns, rfl⟩ := items_ints q3
  have hlen : ns.length ≤ 63 := by
   have : l.row.pre.holds l.row.records { args := [WData.list (ns.map .int)] } = true := p2
   unfold OpenLaw.row OpenLaw.pre at this
   rw [L.most, L.bound] at this
   by_cases hq : ns.length ≤ 63
   ·exact hq
   ·exfalso
    have hlt : (63 : Int) < (ns.length : Int) := by lia
    simp [WTm.holds, WTm.value, less?, Num.less?, hlt] at this
  obtain ⟨vals, tk', e1, e2, e3, e4⟩ := lay_ints (R := l.row.toRowW.claim.records) (cl := classAt s₁.heap) (P := w.params) (ord := ord) ns s₁
  let s₂ : Shared := { s₁ with heap := s₁.heap.push { cls := .type "list", data := .seq vals.toArray }, toks := tk' }
  have hlaid : layAllW l.row.toRowW.claim.records (classAt s₁.heap) w.params ord [.list (ns.map .int)] s₁ = some ([.ref s₁.heap.objs.size], s₂) := by
   simp only [layAllW, layW, e1]
   rfl
  have ab : Above s₁.heap s₂.heap := Above.push _ _
  obtain ⟨f, o, fd, hf1, hf2, hf3, hcall⟩ := (glob_n B n callerA rfl (by rw [units_caller]; have : cLine = cLine := rfl; unfold cLine; lia) (by rw [depth_caller]; unfold recursionLimit; lia)).fns li l.name hli
  have hobj : s₂.heap.get? s₁.heap.objs.size = some { cls := .type "list", data := .seq vals.toArray } := Heap.get?_push_size _ rfl
  have hrel : RelL [] s₂.heap [.lst (ns.map .int)] [.ref s₁.heap.objs.size] := ⟨_, _, rfl, ⟨_, vals, rfl, List.not_mem_nil, ⟨0, hobj⟩, e3 _ _⟩, rfl⟩
  have main := hcall [] s₂ _ _ _ ab (Nat.le_trans ht1 e2) alive_nil hrel (math ns hlen)
  refine ⟨_, s₂, hlaid, wpAny_bind (wpAny_nsGet (a.ns.at fun o => ab _ o) ?_)⟩
  show wpAny _ _ (match mg l.name with | some f => _ | none => _) _ _ _
  rw [hf1]
  refine wpAny_bind (main.use fun v s' kp hv => ?_)
  obtain rfl := (show v = .bool true from hv)
  obtain ⟨⟨h', tk'', rfl, hab⟩, _⟩ := kp
  have hreads := ReadsAllW.cons (R := l.row.toRowW.claim.records) (cl := classAt s₁.heap) (.list (hab _ _ hobj) rfl rfl (by simpa using e4 l.row.toRowW.claim.records (classAt s₁.heap) h')) .nil
  refine wpAny_pure ⟨_, rfl, .inl ⟨.bool true, rfl, fun cls => rfl, ⟨.bool true, [WData.list (ns.map .int)], [], _, .bool _, hreads, ?_, ?_, ?_⟩, ?_, ?_, ?_⟩, rfl, ?_, fun q => ?_⟩
  ·show (WShape.has l.row.records (.bool true) l.row.returns && l.row.post.holds l.row.records { args := _, res := some (.bool true), after := _ }) = true
   refine Bool.and_eq_true_iff.mpr ⟨rfl, ?_⟩
   simp [OpenLaw.row, WTm.holds, WTm.value, same]
  ·intro _
   exact ⟨List.nodup_nil, fun a ha => absurd ha List.not_mem_nil, fun a ha => absurd ha List.not_mem_nil⟩
  ·intro as₀ _
   exact ident_freeW (r := l.row.toRowW) rfl rfl rfl _ _
  ·intro i hi
   exact nope hi
  ·intro b o' hb _ _
   exact .inl (hab _ _ hb)
  ·intro i hi
   cases hi
  ·show AllBare s₁.gens
   rw [hg1]
   exact .of_eq rfl
  ·have q' : l.writes = true := q
   rw [L.wr] at q'; exact absurd q' Bool.false_ne_true
end Rs.Internal
end
section
set_option tactic.hygienic false
set_option backward.match.sparseCases false
namespace Rs.Internal.M
noncomputable abbrev Tok := Option Nat
noncomputable abbrev dots3 : List Nat := [46, 46, 46]
noncomputable def toksGo : List Nat → Nat → List Tok
 | [], z1 => []
 | c :: r, k => if k = 0 then bif List.isPrefixOf dots3 (c :: r) then none :: toksGo r 2 else some c :: toksGo r 0 else toksGo r (k - 1)
noncomputable def toks (s : List Nat) : List Tok := toksGo s 0
noncomputable def FitsT : List Tok → List Nat → Prop
 | [], t => t = []
 | some c :: p, t => ∃ t', t = c :: t' ∧ FitsT p t'
 | none :: p, t => ∃ u t', t = u ++ t' ∧ FitsT p t'
noncomputable def consP (c : Nat) : List (List Nat) → List (List Nat)
 | w :: ws => (c :: w) :: ws
 | [] => [[c]]
noncomputable def piecesT : List Tok → List (List Nat)
 | [] => [[]]
 | none :: p => [] :: piecesT p
 | some c :: p => consP c (piecesT p)
theorem piecesT_ne : ∀ p : List Tok, piecesT p ≠ []
 | [] => List.cons_ne_nil _ _
 | none :: p => List.cons_ne_nil _ _
 | some c :: p => by
  show consP c (piecesT p) ≠ []
  cases piecesT p with
  | nil => exact List.cons_ne_nil _ _
  | cons w ws => exact List.cons_ne_nil _ _
noncomputable def FitsP : List (List Nat) → List Nat → Prop
 | [], z1 => False
 | [w], t => t = w
 | w :: v :: ws, t => ∃ u t', t = w ++ (u ++ t') ∧ FitsP (v :: ws) t'
theorem fitsP_cons_char {c : Nat} : ∀ {w : List Nat} {ws : List (List Nat)} {t : List Nat}, FitsP ((c :: w) :: ws) t ↔ ∃ t', t = c :: t' ∧ FitsP (w :: ws) t'
 | w, [], t => ⟨fun h => ⟨w, h, rfl⟩, fun ⟨z1, h, e⟩ => h.trans (congrArg (c :: ·) e)⟩
 | w, v :: ws, t => by
  show (∃ u t', t = (c :: w) ++ (u ++ t') ∧ FitsP (v :: ws) t') ↔ ∃ t', t = c :: t' ∧ ∃ u t'', t' = w ++ (u ++ t'') ∧ FitsP (v :: ws) t''
  constructor
  ·rintro ⟨u, t', rfl, h⟩
   exact ⟨w ++ (u ++ t'), rfl, u, t', rfl, h⟩
  ·rintro ⟨_, rfl, u, t', rfl, h⟩
   exact ⟨u, t', rfl, h⟩
theorem fits_pieces : ∀ (p : List Tok) (t : List Nat), FitsT p t ↔ FitsP (piecesT p) t
 | [], t => Iff.rfl
 | none :: p, t => by
  have ih := fits_pieces p
  show (∃ u t', t = u ++ t' ∧ FitsT p t') ↔ FitsP ([] :: piecesT p) t
  cases h : piecesT p with
  | nil => exact absurd h (piecesT_ne p)
  | cons w ws =>
   rw [h] at ih
   show _ ↔ ∃ u t', t = u ++ t' ∧ FitsP (w :: ws) t'
   constructor
   ·rintro ⟨u, t', rfl, hf⟩; exact ⟨u, t', rfl, (ih t').mp hf⟩
   ·rintro ⟨u, t', rfl, hf⟩; exact ⟨u, t', rfl, (ih t').mpr hf⟩
 | some c :: p, t => by
  have ih := fits_pieces p
  show (∃ t', t = c :: t' ∧ FitsT p t') ↔ FitsP (consP c (piecesT p)) t
  cases h : piecesT p with
  | nil => exact absurd h (piecesT_ne p)
  | cons w ws =>
   rw [h] at ih
   show _ ↔ FitsP ((c :: w) :: ws) t
   rw [fitsP_cons_char]
   constructor
   ·rintro ⟨t', rfl, hf⟩; exact ⟨t', rfl, (ih t').mp hf⟩
   ·rintro ⟨t', rfl, hf⟩; exact ⟨t', rfl, (ih t').mpr hf⟩
theorem pre3 (s : List Nat) : List.isPrefixOf dots3 s = true ↔ ∃ r, s = 46 :: 46 :: 46 :: r := by
 rw [List.isPrefixOf_iff_prefix]
 constructor
 ·rintro ⟨r, rfl⟩; exact ⟨r, rfl⟩
 ·rintro ⟨r, rfl⟩; exact ⟨r, rfl⟩
theorem toks_dots (r : List Nat) : toks (46 :: 46 :: 46 :: r) = none :: toks r := rfl
theorem toks_other {c : Nat} {r : List Nat} (h : ¬ ∃ q, c :: r = 46 :: 46 :: 46 :: q) : toks (c :: r) = some c :: toks r := by
 show (bif List.isPrefixOf dots3 (c :: r) then _ else _) = _
 rw [Bool.eq_false_iff.mpr fun q => h ((pre3 _).mp q)]; rfl
noncomputable def growP (l : List Nat) : List (List Nat) → List (List Nat)
 | w :: ws => (l ++ w) :: ws
 | [] => [l]
theorem splitGo_toks : ∀ (n : Nat) (cur s : List Nat), s.length < n → splitGo dots3 n cur s = growP cur.reverse (piecesT (toks s))
 | 0, cur, s, h => absurd h (Nat.not_lt_zero _)
 | n + 1, cur, [], h => by show [cur.reverse] = [cur.reverse ++ []]; rw [List.append_nil]
 | n + 1, cur, c :: r, h => by
  by_cases hp : List.isPrefixOf dots3 (c :: r) = true
  ·rw [splitGo_t hp]
   obtain ⟨q, e⟩ := (pre3 _).mp hp
   rw [show toks (c :: r) = none :: toks q by rw [e]; rfl]
   have ih := splitGo_toks n [] q (by have := congrArg List.length e; simp at this h; lia)
   rw [e]
   show cur.reverse :: splitGo dots3 n [] q = growP cur.reverse ([] :: piecesT (toks q))
   rw [ih]
   show cur.reverse :: growP [] (piecesT (toks q)) = (cur.reverse ++ []) :: piecesT (toks q)
   rw [List.append_nil]
   cases hq : piecesT (toks q) with
   | nil => exact absurd hq (piecesT_ne _)
   | cons w ws => rfl
  ·rw [splitGo_f hp]
   have hn : ¬ ∃ q, c :: r = 46 :: 46 :: 46 :: q := fun h => hp ((pre3 _).mpr h)
   rw [splitGo_toks n (c :: cur) r (by simpa using h), toks_other hn]
   show _ = growP _ (consP c (piecesT (toks r)))
   cases hq : piecesT (toks r) with
   | nil => exact absurd hq (piecesT_ne _)
   | cons w ws => show ((c :: cur).reverse ++ w) :: ws = (cur.reverse ++ c :: w) :: ws; simp
theorem split_toks (s : List Nat) : splitL s dots3 = piecesT (toks s) := by
 unfold splitL
 rw [splitGo_toks _ _ _ (Nat.lt_succ_self _)]
 cases h : piecesT (toks s) with
 | nil => exact absurd h (piecesT_ne _)
 | cons w ws => rfl
theorem toks_plain : ∀ (s : List Nat), subIn dots3 s = false → toks s = s.map some := by
 intro s
 induction s with
 | nil =>
  intro _
  exact rfl
 | cons c r ih__ =>
  intro h
  replace h := Bool.or_eq_false_iff.mp (show (List.isPrefixOf dots3 (c :: r) || subIn dots3 r) = false from h)
  have hn : ¬ ∃ q, c :: r = 46 :: 46 :: 46 :: q := fun e => by
   have := (pre3 _).mpr e
   rw [h.1] at this; exact absurd this Bool.false_ne_true
  rw [toks_other hn, ih__ h.2]; rfl
theorem fits_plain : ∀ (s t : List Nat), FitsT (s.map some) t ↔ t = s := by
 intro s
 induction s with
 | nil =>
  intro t
  exact Iff.rfl
 | cons c s ih__ =>
  intro t
  show (∃ t', t = c :: t' ∧ FitsT (s.map some) t') ↔ t = c :: s
  constructor
  ·rintro ⟨t', rfl, h⟩; rw [(ih__ t').mp h]
  ·rintro rfl; exact ⟨s, rfl, (ih__ s).mpr rfl⟩
noncomputable def FreeP : List (List Nat) → List Nat → Prop
 | [], z1 => True
 | w :: ws, t => ∃ u t', t = u ++ (w ++ t') ∧ FreeP ws t'
theorem FreeP.front : ∀ {ws : List (List Nat)} {t : List Nat} (u : List Nat), FreeP ws t → FreeP ws (u ++ t) := by
 intro ws
 induction ws with
 | nil =>
  intro _ _ _
  exact trivial
 | cons w ws ih__ =>
  intro t u hh
  obtain ⟨v, t', e, h⟩ := hh
  exact ⟨u ++ v, t', by rw [e]; simp, h⟩
theorem FreeP.nil_cons {ws : List (List Nat)} {t : List Nat} : FreeP ([] :: ws) t ↔ FreeP ws t := by
 constructor
 ·rintro ⟨u, t', rfl, h⟩
  exact FreeP.front u (by simpa using h)
 ·intro h; exact ⟨[], t, rfl, h⟩
theorem FreeP.snoc_nil : ∀ {ws : List (List Nat)} {t : List Nat}, FreeP (ws ++ [[]]) t ↔ FreeP ws t
 | [], t => by
  simp only [List.nil_append]
  constructor
  ·intro _; trivial
  ·intro _; exact ⟨t, [], by simp, trivial⟩
 | w :: ws, t => by
  show (∃ u t', t = u ++ (w ++ t') ∧ FreeP (ws ++ [[]]) t') ↔ ∃ u t', t = u ++ (w ++ t') ∧ FreeP ws t'
  constructor
  ·rintro ⟨u, t', e, h⟩; exact ⟨u, t', e, FreeP.snoc_nil.mp h⟩
  ·rintro ⟨u, t', e, h⟩; exact ⟨u, t', e, FreeP.snoc_nil.mpr h⟩
theorem fitsP_split : ∀ (w : List Nat) (ms : List (List Nat)) (v : List Nat) (t : List Nat), FitsP (w :: (ms ++ [v])) t ↔ ∃ s, t = w ++ (s ++ v) ∧ FreeP ms s
 | w, [], v, t => by
  show (∃ u t', t = w ++ (u ++ t') ∧ t' = v) ↔ ∃ s, t = w ++ (s ++ v) ∧ True
  constructor
  ·rintro ⟨u, t', rfl, rfl⟩; exact ⟨u, rfl, trivial⟩
  ·rintro ⟨s, rfl, _⟩; exact ⟨s, v, rfl, rfl⟩
 | w, m :: ms, v, t => by
  show (∃ u t', t = w ++ (u ++ t') ∧ FitsP (m :: (ms ++ [v])) t') ↔ ∃ s, t = w ++ (s ++ v) ∧ ∃ u t', s = u ++ (m ++ t') ∧ FreeP ms t'
  constructor
  ·rintro ⟨u, t', rfl, h⟩
   obtain ⟨s, rfl, hf⟩ := (fitsP_split m ms v t').mp h
   exact ⟨u ++ (m ++ s), by simp, u, s, rfl, hf⟩
  ·rintro ⟨s, rfl, u, t', rfl, h⟩
   exact ⟨u, m ++ (t' ++ v), by simp, (fitsP_split m ms v _).mpr ⟨t', rfl, h⟩⟩
theorem findGo_some : ∀ (n i : Nat) (w s : List Nat) (k : Nat), findGo w n i s = some k → ∃ u r, s = u ++ (w ++ r) ∧ k = i + u.length ∧ ∀ u' r', s = u' ++ (w ++ r') → u.length ≤ u'.length := by
 intro n
 induction n with
 | zero =>
  intro i w s k h
  exact nope h
 | succ n ih__ =>
  intro i w s k h
  by_cases hp : List.isPrefixOf w s = true
  ·rw [findGo_t hp] at h
   obtain ⟨r, hr⟩ := List.isPrefixOf_iff_prefix.mp hp
   obtain rfl := oi h
   exact ⟨[], r, by simpa using hr.symm, by simp, fun z1 z2 z3 => Nat.zero_le _⟩
  ·cases s with
   | nil => rw [findGo_n hp] at h; exact nope h
   | cons c s =>
    rw [findGo_c hp] at h
    obtain ⟨u, r, e1, e2, e3⟩ := ih__ (i + 1) w s k h
    refine ⟨c :: u, r, by rw [e1]; rfl, by simp [e2]; lia, fun u' r' e => ?_⟩
    cases u' with
    | nil => exact absurd (List.isPrefixOf_iff_prefix.mpr ⟨r', by simpa using e.symm⟩) hp
    | cons d u' =>
     injection e with _ e
     have := e3 u' r' e
     simpa using this
theorem findGo_none : ∀ (n i : Nat) (w s : List Nat), s.length < n → findGo w n i s = none → ∀ u r, s ≠ u ++ (w ++ r) := by
 intro n
 induction n with
 | zero =>
  intro i w s hn h
  exact absurd hn (Nat.not_lt_zero _)
 | succ n ih__ =>
  intro i w s hn h
  intro u r e
  by_cases hp : List.isPrefixOf w s = true
  ·rw [findGo_t hp] at h; cases h
  ·cases u with
   | nil => exact hp (List.isPrefixOf_iff_prefix.mpr ⟨r, by simpa using e.symm⟩)
   | cons c u =>
    cases s with
    | nil => simp at e
    | cons d s =>
     rw [findGo_c hp] at h
     injection e with _ e
     exact ih__ (i + 1) w s (by simpa using hn) h u r e
end Rs.Internal.M
end
section
set_option tactic.hygienic false
namespace Rs.Internal.M
noncomputable def loopM (got : List Nat) (en : Nat) : List (List Nat) → Nat → Bool
 | [], z1 => true
 | w :: ws, st => if findL got w st en < 0 then false else loopM got en ws ((findL got w st en).toNat + w.length)
noncomputable def tailIf (w : List Nat) (ws : List (List Nat)) : List (List Nat) := if w.isEmpty then ws else ws.tail
noncomputable def initIf (w : List Nat) (ws : List (List Nat)) : List (List Nat) := if w.isEmpty then ws else ws.dropLast
noncomputable def matchP (want got : List Nat) : Bool :=
 if subIn dots3 want then
  let ws := splitL want dots3
  let w := ws.headD []
  if !w.isEmpty && !List.isPrefixOf w got then false else
  let ws := tailIf w ws
  let v := ws.getLastD []
  if !v.isEmpty && !List.isSuffixOf v got then false else
  if got.length - v.length < w.length then false else
  loopM got (got.length - v.length) (initIf v ws) w.length
 else want == got
theorem findL_neg {got w : List Nat} {st en : Nat} (h : findL got w st en < 0) : ∀ u r, (got.take en).drop st ≠ u ++ (w ++ r) := by
 unfold findL at h
 cases hf : findGo w (got.length + 1) st ((got.take en).drop st) with
 | some k => rw [hf] at h; simp at h; lia
 | none => exact findGo_none _ _ _ _ (by simp; lia) hf
theorem findL_pos {got w : List Nat} {st en : Nat} (h : ¬ findL got w st en < 0) : ∃ u r, (got.take en).drop st = u ++ (w ++ r) ∧ (findL got w st en).toNat = st + u.length ∧ ∀ u' r', (got.take en).drop st = u' ++ (w ++ r') → u.length ≤ u'.length := by
 unfold findL at h ⊢
 cases hf : findGo w (got.length + 1) st ((got.take en).drop st) with
 | none => rw [hf] at h; simp at h
 | some k =>
  refine cps fun PP kk => ?_
  obtain ⟨u, r, e1, e2, e3⟩ := findGo_some _ _ _ _ _ hf
  refine kk ?_
  clear kk PP
  exact ⟨u, r, e1, by show (k : Int).toNat = _; rw [Int.toNat_natCast, e2], e3⟩
theorem loopM_iff (got : List Nat) (en : Nat) : ∀ (ws : List (List Nat)) (st : Nat), loopM got en ws st = true ↔ FreeP ws ((got.take en).drop st) := by
 intro ws
 induction ws with
 | nil =>
  intro st
  exact ⟨fun z1 => trivial, fun z1 => rfl⟩
 | cons w ws ih__ =>
  intro st
  rw [show loopM got en (w :: ws) st = if findL got w st en < 0 then false else loopM got en ws ((findL got w st en).toNat + w.length) from rfl]
  by_cases h : findL got w st en < 0
  ·rw [if_pos h]
   constructor
   ·intro q; cases q
   ·rintro ⟨u, r, e, _⟩; exact absurd e (findL_neg h u r)
  ·rw [if_neg h, ih__]
   refine cps fun PP kk => ?_
   obtain ⟨u, r, e1, e2, e3⟩ := findL_pos h
   refine kk ?_
   clear kk PP
   have er : (got.take en).drop ((findL got w st en).toNat + w.length) = r := by
    rw [e2]
    have : (got.take en).drop (st + u.length + w.length) = ((got.take en).drop st).drop (u.length + w.length) := by rw [List.drop_drop]; congr 1; lia
    rw [this, e1, ← List.append_assoc, List.drop_append_of_le_length (by simp)]
    simp
   rw [er]
   constructor
   ·intro q; exact ⟨u, r, e1, q⟩
   ·rintro ⟨u', r', e, q⟩
    have hl := e3 u' r' e
    rw [e1] at e
    have hr : r = r.take (u'.length - u.length) ++ r' := by
     have e4 : r.drop (u'.length - u.length) = r' := by
      have a1 : (u ++ (w ++ r)).drop (u'.length + w.length) = r.drop (u'.length - u.length) := by
       rw [← List.append_assoc, List.drop_append]
       have : (u ++ w).drop (u'.length + w.length) = [] := List.drop_of_length_le (by simp; lia)
       rw [this, List.nil_append]
       congr 1
       simp; lia
      have a2 : (u' ++ (w ++ r')).drop (u'.length + w.length) = r' := by
       rw [← List.append_assoc, List.drop_append_of_le_length (by simp)]
       simp
      rw [← a1, e, a2]
     rw [← e4, List.take_append_drop]
    rw [hr]
    exact FreeP.front _ q
theorem pieces_two : ∀ {p : List Tok}, none ∈ p → ∃ w ms v, piecesT p = w :: (ms ++ [v])
 | [], h => absurd h List.not_mem_nil
 | none :: p, z1 => by
  cases h : piecesT p with
  | nil => exact absurd h (piecesT_ne p)
  | cons w ws =>
   refine ⟨[], (w :: ws).dropLast, (w :: ws).getLast (by simp), ?_⟩
   rw [show piecesT (none :: p) = [] :: piecesT p from rfl, h, List.dropLast_concat_getLast]
 | some c :: p, h => by
  obtain ⟨w, ms, v, e⟩ := pieces_two (p := p) (by
   rcases List.mem_cons.mp h with q | q
   ·exact nope q
   ·exact q)
  exact ⟨c :: w, ms, v, by rw [show piecesT (some c :: p) = consP c (piecesT p) from rfl, e]; rfl⟩
theorem toks_gap : ∀ (s : List Nat), subIn dots3 s = true → none ∈ toks s := by
 intro s
 induction s with
 | nil =>
  intro h
  exact absurd (show false = true from h) Bool.false_ne_true
 | cons c r ih__ =>
  intro h
  by_cases hp : List.isPrefixOf dots3 (c :: r) = true
  ·obtain ⟨q, e⟩ := (pre3 _).mp hp
   rw [e, toks_dots]; exact List.mem_cons_self ..
  ·have hn : ¬ ∃ q, c :: r = 46 :: 46 :: 46 :: q := fun h => hp ((pre3 _).mpr h)
   rw [toks_other hn]
   replace h := (Bool.or_eq_true _ _).mp (show (List.isPrefixOf dots3 (c :: r) || subIn dots3 r) = true from h)
   rcases h with h | h
   ·exact absurd h hp
   ·exact List.mem_cons_of_mem _ (ih__ h)
theorem matchP_iff (want got : List Nat) : matchP want got = true ↔ FitsT (toks want) got := by
 unfold matchP
 by_cases hs : subIn dots3 want = true
 ·rw [if_pos hs, fits_pieces, split_toks]
  refine cps fun PP kk => ?_
  obtain ⟨w, ms, v, e⟩ := pieces_two (toks_gap want hs)
  refine kk ?_
  clear kk PP
  rw [e, fitsP_split]
  simp only [List.headD_cons]
  have hlast : (tailIf w (w :: (ms ++ [v]))).getLastD [] = v := by
   unfold tailIf
   split
   ·rw [← List.cons_append, List.getLastD_concat]
   ·rw [List.tail_cons, List.getLastD_concat]
  simp only [hlast]
  have hL : ∀ s, FreeP (initIf v (tailIf w (w :: (ms ++ [v])))) s ↔ FreeP ms s := fun s => by
   unfold initIf tailIf
   cases w with
   | nil =>
    cases v with
    | nil =>
     simp only [List.isEmpty_nil, if_true]
     rw [FreeP.nil_cons, FreeP.snoc_nil]
    | cons c v =>
     simp only [List.isEmpty_nil, if_true, List.isEmpty_cons, Bool.false_eq_true, if_false]
     rw [← List.cons_append, List.dropLast_concat, FreeP.nil_cons]
   | cons d w =>
    cases v with
    | nil =>
     simp only [List.isEmpty_nil, if_true, List.isEmpty_cons, Bool.false_eq_true, if_false, List.tail_cons]
     rw [FreeP.snoc_nil]
    | cons c v =>
     simp only [List.isEmpty_cons, Bool.false_eq_true, if_false, List.tail_cons]
     rw [List.dropLast_concat]
  have hw : (!w.isEmpty && !List.isPrefixOf w got) = true ↔ ¬ w <+: got := by
   cases w with
   | nil => simp
   | cons c w => simp [← List.isPrefixOf_iff_prefix]
  have hv : (!v.isEmpty && !List.isSuffixOf v got) = true ↔ ¬ v <:+ got := by
   cases v with
   | nil => simp
   | cons c v => simp [← List.isSuffixOf_iff_suffix]
  by_cases h1 : w <+: got
  ·rw [if_neg (fun q => (hw.mp q) h1)]
   by_cases h2 : v <:+ got
   ·rw [if_neg (fun q => (hv.mp q) h2)]
    by_cases h3 : got.length - v.length < w.length
    ·rw [if_pos h3]
     constructor
     ·intro q; cases q
     ·rintro ⟨s, rfl, _⟩
      simp at h3; lia
    ·rw [if_neg h3, loopM_iff, hL]
     obtain ⟨a, ha⟩ := h1
     obtain ⟨b, hb⟩ := h2
     have hlv : v.length ≤ got.length := by rw [← hb]; simp
     have hb' : got.take (got.length - v.length) = b := by
      rw [← hb]; simp
     have key : got = w ++ ((got.take (got.length - v.length)).drop w.length ++ v) := by
      rw [hb', ← List.append_assoc]
      have : w ++ b.drop w.length = b := by
       have e1 : w = b.take w.length := by
        have e2 : got.take w.length = w := by rw [← ha]; simp
        have e3 : got.take w.length = b.take w.length := by
         rw [← hb, List.take_append_of_le_length]
         have := congrArg List.length hb
         simp at this; lia
        rw [← e3, e2]
       conv => lhs; lhs; rw [e1]
       exact List.take_append_drop _ _
      rw [this, hb]
     constructor
     ·intro q; exact ⟨_, key, q⟩
     ·rintro ⟨s, hs', q⟩
      have : (got.take (got.length - v.length)).drop w.length = s := by
       have := key.symm.trans hs'
       exact List.append_cancel_right (List.append_cancel_left this)
      rw [this]; exact q
   ·rw [if_pos (hv.mpr h2)]
    constructor
    ·intro q; cases q
    ·rintro ⟨s, rfl, _⟩
     exact absurd ⟨w ++ s, by simp⟩ h2
  ·rw [if_pos (hw.mpr h1)]
   constructor
   ·intro q; cases q
   ·rintro ⟨s, rfl, _⟩
    exact absurd ⟨s ++ v, rfl⟩ h1
 ·replace hs : subIn dots3 want = false := by simpa using hs
  rw [hs, if_neg Bool.false_ne_true, toks_plain want hs, fits_plain]
  constructor
  ·intro q; exact (eq_of_beq q).symm
  ·intro q; rw [q]; exact beq_self_eq_true _
end Rs.Internal.M
end
section
set_option tactic.hygienic false
set_option backward.match.sparseCases false
namespace Rs.Internal.M
structure CostOk (c : Nat → Nat → Nat) : Prop where
 refl : ∀ x, c x x = 0
 le2 : ∀ x y, c x y ≤ 2
 sym : ∀ x y, c x y = c y x
inductive Al (c : Nat → Nat → Nat) : List Nat → List Nat → Nat → Prop
 | nil : Al c [] [] 0
 | del {a b : List Nat} {n : Nat} (x : Nat) : Al c a b n → Al c (x :: a) b (n + 2)
 | ins {a b : List Nat} {n : Nat} (y : Nat) : Al c a b n → Al c a (y :: b) (n + 2)
 | sub {a b : List Nat} {n : Nat} (x y : Nat) : Al c a b n → Al c (x :: a) (y :: b) (n + c x y)
variable {c : Nat → Nat → Nat}
theorem Al.append {a b a' b' : List Nat} {n m : Nat} (h : Al c a b n) (h' : Al c a' b' m) : Al c (a ++ a') (b ++ b') (n + m) := by
 induction h with
 | nil => simpa using h'
 | del x z1 ih => have := Al.del x ih; simpa [Nat.add_right_comm] using this
 | ins y z1 ih => have := Al.ins y ih; simpa [Nat.add_right_comm] using this
 | sub x y z1 ih => have := Al.sub x y ih; simpa [Nat.add_right_comm] using this
theorem Al.same (hc : CostOk c) : ∀ a : List Nat, Al c a a 0 := by
 intro a
 induction a with
 | nil =>
  exact .nil
 | cons x a ih__ =>
  have := Al.sub (c := c) x x (ih__); simpa [hc.refl] using this
theorem Al.dels : ∀ a : List Nat, Al c a [] (2 * a.length) := by
 intro a
 induction a with
 | nil =>
  exact .nil
 | cons x a ih__ =>
  exact Al.del x (ih__)
theorem Al.inss : ∀ b : List Nat, Al c [] b (2 * b.length) := by
 intro b
 induction b with
 | nil =>
  exact .nil
 | cons y b ih__ =>
  exact Al.ins y (ih__)
theorem Al.rev {a b : List Nat} {n : Nat} (h : Al c a b n) : Al c a.reverse b.reverse n := by
 induction h with
 | nil => exact .nil
 | del x z1 ih => have := ih.append (Al.dels (c := c) [x]); simpa using this
 | ins y z1 ih => have := ih.append (Al.inss (c := c) [y]); simpa using this
 | sub x y z1 ih => have := ih.append (Al.sub (c := c) x y .nil); simpa using this
theorem Al.symm (hc : CostOk c) {a b : List Nat} {n : Nat} (h : Al c a b n) : Al c b a n := by
 induction h with
 | nil => exact .nil
 | del x z1 ih => exact .ins x ih
 | ins y z1 ih => exact .del y ih
 | sub x y z1 ih => rw [hc.sym]; exact .sub y x ih
theorem Al.len {a b : List Nat} {n : Nat} (h : Al c a b n) : 2 * b.length ≤ n + 2 * a.length ∧ 2 * a.length ≤ n + 2 * b.length := by
 induction h with
 | nil => simp
 | del x z1 ih => simp; lia
 | ins y z1 ih => simp; lia
 | sub x y z1 ih => simp; lia
theorem Al.nil_right {a : List Nat} {n : Nat} (h : Al c a [] n) : n = 2 * a.length := by
 generalize hb : ([] : List Nat) = b at h
 induction h with
 | nil => rfl
 | del x z1 ih => rw [ih hb]; simp; lia
 | ins y z1 ih => cases hb
 | sub x y z1 ih => cases hb
theorem Al.nil_left {b : List Nat} {n : Nat} (h : Al c [] b n) : n = 2 * b.length := by
 generalize ha : ([] : List Nat) = a at h
 induction h with
 | nil => rfl
 | ins y z1 ih => rw [ih ha]; simp; lia
 | del y z1 ih => cases ha
 | sub x y z1 ih => cases ha
theorem Al.split {x r t : List Nat} {n : Nat} (h : Al c (x ++ r) t n) : ∃ u v n1 n2, t = u ++ v ∧ Al c x u n1 ∧ Al c r v n2 ∧ n = n1 + n2 := by
 generalize ha : x ++ r = a at h
 induction h generalizing x with
 | nil =>
  obtain ⟨rfl, rfl⟩ := List.append_eq_nil_iff.mp ha
  exact ⟨[], [], 0, 0, rfl, .nil, .nil, rfl⟩
 | @del a b n z h ih =>
  cases x with
  | nil =>
   have e : r = z :: a := by simpa using ha
   subst e
   exact ⟨[], b, 0, n + 2, rfl, .nil, .del z h, by lia⟩
  | cons w x =>
   injection ha with e1 e2
   subst e1
   refine cps fun PP kk => ?_
   obtain ⟨u, v, n1, n2, e, h1, h2, e3⟩ := ih e2
   refine kk ?_
   clear kk PP
   exact ⟨u, v, n1 + 2, n2, e, .del w h1, h2, by lia⟩
 | @ins a b n y h ih =>
  refine cps fun PP kk => ?_
  obtain ⟨u, v, n1, n2, e, h1, h2, e3⟩ := ih ha
  refine kk ?_
  clear kk PP
  exact ⟨y :: u, v, n1 + 2, n2, by rw [e]; rfl, .ins y h1, h2, by lia⟩
 | @sub a b n z y h ih =>
  cases x with
  | nil =>
   have e : r = z :: a := by simpa using ha
   subst e
   exact ⟨[], y :: b, 0, n + c z y, rfl, .nil, .sub z y h, by lia⟩
  | cons w x =>
   injection ha with e1 e2
   subst e1
   refine cps fun PP kk => ?_
   obtain ⟨u, v, n1, n2, e, h1, h2, e3⟩ := ih e2
   refine kk ?_
   clear kk PP
   exact ⟨y :: u, v, n1 + c w y, n2, by rw [e]; rfl, .sub w y h1, h2, by lia⟩
theorem Al.drop_right {a b : List Nat} {y n : Nat} (h : Al c a (y :: b) n) : ∃ m, m ≤ n + 2 ∧ Al c a b m := by
 generalize hb : y :: b = b' at h
 induction h with
 | nil => cases hb
 | del x h ih =>
  obtain ⟨m, hm, h'⟩ := ih hb
  exact ⟨m + 2, by lia, .del x h'⟩
 | @ins a b n z h ih =>
  injection hb with e1 e2
  subst e2
  exact ⟨n, by lia, h⟩
 | @sub a b n x z h ih =>
  injection hb with e1 e2
  subst e2
  exact ⟨n + 2, by lia, .del x h⟩
theorem Al.cancel (hc : CostOk c) {a b : List Nat} {x n : Nat} (h : Al c (x :: a) (x :: b) n) : ∃ m, m ≤ n ∧ Al c a b m := by
 cases h with
 | del z1 h =>
  obtain ⟨m, hm, h'⟩ := h.drop_right
  exact ⟨m, hm, h'⟩
 | ins z1 h =>
  obtain ⟨m, hm, h'⟩ := (h.symm hc).drop_right
  exact ⟨m, hm, h'.symm hc⟩
 | sub z1 z2 h => exact ⟨_, Nat.le_add_right _ _, h⟩
noncomputable def Dist (c : Nat → Nat → Nat) (a b : List Nat) (d : Nat) : Prop := Al c a b d ∧ ∀ n, Al c a b n → d ≤ n
theorem Dist.unique {a b : List Nat} {d e : Nat} (h : Dist c a b d) (h' : Dist c a b e) : d = e := Nat.le_antisymm (h.2 _ h'.1) (h'.2 _ h.1)
theorem Dist.symm (hc : CostOk c) {a b : List Nat} {d : Nat} (h : Dist c a b d) : Dist c b a d := ⟨h.1.symm hc, fun n q => h.2 n (q.symm hc)⟩
theorem Dist.rev {a b : List Nat} {d : Nat} (h : Dist c a b d) : Dist c a.reverse b.reverse d := ⟨h.1.rev, fun n q => h.2 n (by simpa using q.rev)⟩
theorem dist_same (hc : CostOk c) (a : List Nat) : Dist c a a 0 := ⟨.same hc a, fun z1 z2 => Nat.zero_le _⟩
theorem dist_nil_left (b : List Nat) : Dist c [] b (2 * b.length) := ⟨.inss b, fun n h => Nat.le_of_eq h.nil_left.symm⟩
theorem dist_nil_right (a : List Nat) : Dist c a [] (2 * a.length) := ⟨.dels a, fun n h => Nat.le_of_eq h.nil_right.symm⟩
theorem dist_cons (hc : CostOk c) {a b : List Nat} {x d : Nat} : Dist c (x :: a) (x :: b) d ↔ Dist c a b d := by
 constructor
 ·rintro ⟨h1, h2⟩
  obtain ⟨m, hm, h3⟩ := h1.cancel hc
  have h4 : ∀ n, Al c a b n → d ≤ n := fun n q => h2 n (by have := Al.sub (c := c) x x q; simpa [hc.refl] using this)
  have : m = d := Nat.le_antisymm hm (h4 m h3)
  exact ⟨this ▸ h3, h4⟩
 ·rintro ⟨h1, h2⟩
  refine ⟨by have := Al.sub (c := c) x x h1; simpa [hc.refl] using this, fun n q => ?_⟩
  obtain ⟨m, hm, h3⟩ := q.cancel hc
  exact Nat.le_trans (h2 m h3) hm
theorem dist_snoc (hc : CostOk c) {p q : List Nat} {x y d0 dl du : Nat} (h0 : Dist c p q d0) (hl : Dist c p (q ++ [y]) dl) (hu : Dist c (p ++ [x]) q du) : Dist c (p ++ [x]) (q ++ [y]) (min (min (dl + 2) (du + 2)) (d0 + c x y)) := by
 constructor
 ·have h1 : Al c (p ++ [x]) (q ++ [y]) (dl + 2) := by have := hl.1.append (Al.dels (c := c) [x]); simpa using this
  have h2 : Al c (p ++ [x]) (q ++ [y]) (du + 2) := by have := hu.1.append (Al.inss (c := c) [y]); simpa using this
  have h3 : Al c (p ++ [x]) (q ++ [y]) (d0 + c x y) := by have := h0.1.append (Al.sub (c := c) x y .nil); simpa using this
  rcases Nat.le_total (min (dl + 2) (du + 2)) (d0 + c x y) with h | h
  ·rw [Nat.min_eq_left h]
   rcases Nat.le_total (dl + 2) (du + 2) with h' | h'
   ·rw [Nat.min_eq_left h']; exact h1
   ·rw [Nat.min_eq_right h']; exact h2
  ·rw [Nat.min_eq_right h]; exact h3
 ·intro n h
  replace h := h.rev
  rw [List.reverse_append, List.reverse_append] at h
  simp only [List.reverse_cons, List.reverse_nil, List.nil_append, List.singleton_append] at h
  cases h with
  | @del z1 z2 n z3 h' =>
   have := hl.2 n (by have := h'.rev; simpa using this)
   lia
  | @ins z1 z2 n z3 h' =>
   have := hu.2 n (by have := h'.rev; simpa using this)
   lia
  | @sub z1 z2 n z3 z4 h' =>
   have := h0.2 n (by have := h'.rev; simpa using this)
   lia
noncomputable def big : Nat := 9223372036854775807
noncomputable def innerL (c : Nat → Nat → Nat) (y : Nat) : List Nat → List Nat → Nat → Nat → Nat → List Nat × Nat × Nat
 | x :: as, u :: row, d, r, m =>
  let r' := min (min r u + 2) (d + c y x)
  let z := innerL c y as row u r' (if r' < m then r' else m)
  (r' :: z.1, z.2.1, z.2.2)
 | z1, z2, z3, r, m => ([], r, m)
theorem innerL_c {c : Nat → Nat → Nat} {y x u d r m : Nat} {as row : List Nat} : innerL c y (x :: as) (u :: row) d r m =
  (min (min r u + 2) (d + c y x) :: (innerL c y as row u (min (min r u + 2) (d + c y x)) (if min (min r u + 2) (d + c y x) < m then min (min r u + 2) (d + c y x) else m)).1,
   (innerL c y as row u (min (min r u + 2) (d + c y x)) (if min (min r u + 2) (d + c y x) < m then min (min r u + 2) (d + c y x) else m)).2.1,
   (innerL c y as row u (min (min r u + 2) (d + c y x)) (if min (min r u + 2) (d + c y x) < m then min (min r u + 2) (d + c y x) else m)).2.2) := rfl
noncomputable def rowsL (c : Nat → Nat → Nat) (a : List Nat) (m : Int) : List Nat → Nat → List Nat → Nat → Int
 | [], z1, z2, res => res
 | y :: b, i, row, z1 =>
  let z := innerL c y a row (2 * i) (2 * i) big
  if (z.2.2 : Int) > m then m + 1 else rowsL c a m b (i + 1) z.1 z.2.1
theorem rowsL_c {c : Nat → Nat → Nat} {a b row : List Nat} {m : Int} {y i res : Nat} : rowsL c a m (y :: b) i row res =
  if ((innerL c y a row (2 * i) (2 * i) big).2.2 : Int) > m then m + 1 else rowsL c a m b (i + 1) (innerL c y a row (2 * i) (2 * i) big).1 (innerL c y a row (2 * i) (2 * i) big).2.1 := rfl
noncomputable def RowOk (c : Nat → Nat → Nat) : List Nat → List Nat → List Nat → List Nat → Prop
 | z1, [], z2, row => row = []
 | p, x :: a, q, row => ∃ u r, row = u :: r ∧ Dist c (p ++ [x]) q u ∧ RowOk c (p ++ [x]) a q r
theorem ite_le (a m : Nat) : (if a < m then a else m) ≤ a ∧ (if a < m then a else m) ≤ m := by
 split <;> lia
theorem innerL_ok (hc : CostOk c) {y : Nat} {q : List Nat} : ∀ (a p row : List Nat) (d r m dl : Nat), RowOk c p a q row → Dist c p q d → Dist c p (q ++ [y]) dl → (∀ x, min (r + 2) (d + c y x) = min (dl + 2) (d + c y x)) →
  RowOk c p a (q ++ [y]) (innerL c y a row d r m).1 ∧ (∀ v ∈ (innerL c y a row d r m).1, (innerL c y a row d r m).2.2 ≤ v) ∧ (innerL c y a row d r m).2.2 ≤ m ∧ (a ≠ [] → Dist c (p ++ a) (q ++ [y]) (innerL c y a row d r m).2.1) := by
 intro a
 induction a with
 | nil =>
  intro p row d r m dl hr hd hl hx
  refine ⟨rfl, fun v hv => ?_, Nat.le_refl _, fun h => absurd rfl h⟩
  exact absurd hv List.not_mem_nil
 | cons x a ih__ =>
  intro p row d r m dl hr hd hl hx
  refine cps fun PP kk => ?_
  obtain ⟨u, row, ee1, hu, hrow⟩ := hr
  refine kk ?_
  clear kk PP
  subst ee1
  have key : min (min r u + 2) (d + c y x) = min (min (dl + 2) (u + 2)) (d + c x y) := by
   rw [hc.sym x y, ← Nat.add_min_add_right, Nat.min_assoc, Nat.min_comm (u + 2), ← Nat.min_assoc, hx x, Nat.min_assoc, Nat.min_comm (d + c y x), ← Nat.min_assoc]
  have hnew := dist_snoc hc (x := x) hd hl hu
  rw [← key] at hnew
  have ih := ih__ (p ++ [x]) row u (min (min r u + 2) (d + c y x)) (if min (min r u + 2) (d + c y x) < m then min (min r u + 2) (d + c y x) else m) _ hrow hu hnew (fun z1 => rfl)
  rw [innerL_c]
  refine cps fun PP kk => ?_
  obtain ⟨h1, h2, h3, h4⟩ := ih
  refine kk ?_
  clear kk PP
  refine ⟨⟨_, _, rfl, hnew, h1⟩, fun v hv => ?_, ?_, fun z1 => ?_⟩
  ·rcases List.mem_cons.mp hv with rfl | hv
   ·exact Nat.le_trans h3 (ite_le _ _).1
   ·exact h2 v hv
  ·exact Nat.le_trans h3 (ite_le _ _).2
  ·cases a with
   | nil => exact hnew
   | cons x' a => have := h4 (by simp); simpa using this
theorem row_mem {q : List Nat} : ∀ (a p row : List Nat) (k : Nat), RowOk c p a q row → 1 ≤ k → k ≤ a.length → ∃ v ∈ row, Dist c (p ++ a.take k) q v := by
 intro a
 induction a with
 | nil =>
  intro p row k h h1 h2
  simp at h2; lia
 | cons x a ih__ =>
  intro p row k hh h1 h2
  obtain ⟨u, r, e, hu, hr⟩ := hh
  subst e
  by_cases hk : k = 1
  ·subst hk
   exact ⟨u, List.mem_cons_self .., by simpa using hu⟩
  ·obtain ⟨v, hv, hd⟩ := ih__ (p ++ [x]) r (k - 1) hr (by lia) (by simp at h2; lia)
   refine ⟨v, List.mem_cons_of_mem _ hv, ?_⟩
   obtain ⟨k, rfl⟩ : ∃ j, k = j + 2 := ⟨k - 2, by lia⟩
   simpa using hd
theorem row_bound (hc : CostOk c) {a q b row : List Nat} {m n : Nat} (ha : a ≠ []) (hq : q ≠ []) (hr : RowOk c [] a q row) (hm : ∀ v ∈ row, m ≤ v) (h : Al c a (q ++ b) n) : m ≤ n := by
 obtain ⟨u, v, n1, n2, e, h1, h2, rfl⟩ := (h.symm hc).split
 rcases u with _ | ⟨x, u⟩
 ·-- the first row
  have hn1 := h1.nil_right
  obtain ⟨w, hw, hd⟩ := row_mem a [] row 1 hr (Nat.le_refl _) (by cases a with | nil => exact absurd rfl ha | cons z1 z2 => simp)
  have hw' := hm w hw
  obtain ⟨x, a, rfl⟩ : ∃ x r, a = x :: r := by cases a with | nil => exact absurd rfl ha | cons x r => exact ⟨x, r, rfl⟩
  obtain ⟨y, q, rfl⟩ : ∃ x r, q = x :: r := by cases q with | nil => exact absurd rfl hq | cons x r => exact ⟨x, r, rfl⟩
  have := hd.2 _ (Al.sub x y (Al.inss q))
  have := hc.le2 x y
  simp at hn1
  lia
 ·have hlen : (x :: u).length ≤ a.length := by rw [e]; simp
  obtain ⟨w, hw, hd⟩ := row_mem a [] row (x :: u).length hr (by simp) hlen
  have : a.take (x :: u).length = x :: u := by rw [e]; simp
  rw [this] at hd
  have := hd.2 _ (h1.symm hc)
  have := hm w hw
  lia
theorem rowsL_ok (hc : CostOk c) {a : List Nat} (ha : a ≠ []) (m : Int) : ∀ (b q row : List Nat) (res d : Nat), RowOk c [] a q row → Dist c a (q ++ b) d → (b = [] → Dist c a q res) →
  ((d : Int) ≤ m → rowsL c a m b q.length row res = d) ∧ (m < d → rowsL c a m b q.length row res = d ∨ rowsL c a m b q.length row res = m + 1) := by
 intro b
 induction b with
 | nil =>
  intro q row res d hr hd hres
  rw [List.append_nil] at hd
  have e : res = d := (hres rfl).unique hd
  subst e
  exact ⟨fun z1 => rfl, fun z1 => .inl rfl⟩
 | cons y b ih__ =>
  intro q row res d hr hd hres
  have h0 : Dist c [] q (2 * q.length) := dist_nil_left q
  have hl : Dist c [] (q ++ [y]) (2 * (q.length + 1)) := by have := dist_nil_left (c := c) (q ++ [y]); simpa using this
  obtain ⟨h1, h2, _, h4⟩ := innerL_ok hc (y := y) a [] row (2 * q.length) (2 * q.length) big _ hr h0 hl fun x => by have := hc.le2 y x; lia
  rw [rowsL_c]
  by_cases hm : ((innerL c y a row (2 * q.length) (2 * q.length) big).2.2 : Int) > m
  ·rw [if_pos hm]
   have hb : (innerL c y a row (2 * q.length) (2 * q.length) big).2.2 ≤ d := row_bound hc ha (by simp) h1 h2 (b := b) (by have := hd.1; simpa using this)
   exact ⟨fun h => by lia, fun z1 => .inr rfl⟩
  ·rw [if_neg hm]
   have ih := ih__ (q ++ [y]) _ (innerL c y a row (2 * q.length) (2 * q.length) big).2.1 d h1 (by simpa using hd) (fun z1 => by have := h4 ha; simpa using this)
   rw [List.length_append] at ih
   exact ih
end Rs.Internal.M
end
section
set_option tactic.hygienic false
set_option backward.match.sparseCases false
namespace Rs.Internal.M
variable {c : Nat → Nat → Nat}
noncomputable def cpl : List Nat → List Nat → Nat
 | x :: a, y :: b => if x = y then cpl a b + 1 else 0
 | z1, z2 => 0
theorem cpl_c {x y : Nat} {a b : List Nat} : cpl (x :: a) (y :: b) = if x = y then cpl a b + 1 else 0 := rfl
theorem cpl_le : ∀ a b : List Nat, cpl a b ≤ a.length ∧ cpl a b ≤ b.length
 | [], b => ⟨Nat.zero_le _, Nat.zero_le _⟩
 | x :: a, [] => ⟨Nat.zero_le _, Nat.zero_le _⟩
 | x :: a, y :: b => by
  rw [cpl_c]
  split
  ·have := cpl_le a b; simp; lia
  ·simp
set_option tactic.hygienic true in
theorem cpl_take : ∀ a b : List Nat, a.take (cpl a b) = b.take (cpl a b)
 | [], b => rfl
 | x :: a, [] => rfl
 | x :: a, y :: b => by
  rw [cpl_c]
  split
  ·rename_i h; subst h; simp [cpl_take a b]
  ·simp
theorem dist_app (hc : CostOk c) {a b : List Nat} {d : Nat} : ∀ u : List Nat, Dist c (u ++ a) (u ++ b) d ↔ Dist c a b d := by
 intro u
 induction u with
 | nil =>
  exact Iff.rfl
 | cons x u ih__ =>
  exact (dist_cons hc).trans (ih__)
theorem dist_drop (hc : CostOk c) {a b : List Nat} {d : Nat} : Dist c (a.drop (cpl a b)) (b.drop (cpl a b)) d ↔ Dist c a b d := by
 have h := dist_app hc (a := a.drop (cpl a b)) (b := b.drop (cpl a b)) (d := d) (a.take (cpl a b))
 rw [List.take_append_drop, cpl_take, List.take_append_drop] at h
 exact h.symm
theorem dist_revI {a b : List Nat} {d : Nat} : Dist c a.reverse b.reverse d ↔ Dist c a b d := ⟨fun h => by have := h.rev; simpa using this, fun h => h.rev⟩
theorem take_rev (a : List Nat) (k : Nat) : (a.take (a.length - k)).reverse = a.reverse.drop k := by
 rw [List.drop_reverse]
theorem dist_take (hc : CostOk c) {a b : List Nat} {d : Nat} : Dist c (a.take (a.length - cpl a.reverse b.reverse)) (b.take (b.length - cpl a.reverse b.reverse)) d ↔ Dist c a b d := by
 rw [← dist_revI, take_rev, take_rev, dist_drop hc, dist_revI]
noncomputable def row0 (n : Nat) : List Nat := (List.range n).map fun j => 2 * (j + 1)
noncomputable def tailL (c : Nat → Nat → Nat) (a b : List Nat) (m : Int) : Int :=
 if ((b.length : Int) - a.length) * 2 > m then m + 1 else rowsL c a m b 0 (row0 a.length) 0
noncomputable def midL (c : Nat → Nat → Nat) (a b : List Nat) (m : Int) : Int :=
 if a.isEmpty || b.isEmpty then 2 * ((a.length : Int) + b.length) else
 if b.length < a.length then tailL c b a m else tailL c a b m
noncomputable def levP (c : Nat → Nat → Nat) (a b : List Nat) (m : Int) : Int :=
 if a = b then 0 else
 let a1 := a.drop (cpl a b)
 let b1 := b.drop (cpl a b)
 let k := cpl a1.reverse b1.reverse
 midL c (a1.take (a1.length - k)) (b1.take (b1.length - k)) m
theorem row0_ok : ∀ (a p : List Nat) (k : Nat), k = p.length → RowOk c p a [] ((List.range a.length).map fun j => 2 * (k + j + 1)) := by
 intro a
 induction a with
 | nil =>
  intro p k h
  exact rfl
 | cons x a ih__ =>
  intro p k h
  refine ⟨2 * (k + 1), (List.range a.length).map fun j => 2 * (k + 1 + j + 1), ?_, ?_, ?_⟩
  ·rw [List.length_cons, List.range_succ_eq_map, List.map_cons, List.map_map]
   simp only [Nat.add_zero, List.cons.injEq, true_and]
   refine List.map_congr_left fun j z1 => ?_
   simp only [Function.comp]; lia
  ·have := dist_nil_right (c := c) (p ++ [x])
   simpa [h] using this
  ·exact ih__ (p ++ [x]) (k + 1) (by simp [h])
noncomputable def Near (d : Nat) (m r : Int) : Prop := ((d : Int) ≤ m → r = d) ∧ (m < d → r = d ∨ r = m + 1)
theorem tailL_ok (hc : CostOk c) {a b : List Nat} (ha : a ≠ []) {d : Nat} (hd : Dist c a b d) (m : Int) (hl : a.length ≤ b.length) (hb : b ≠ []) : Near d m (tailL c a b m) := by
 unfold tailL
 have hlen := hd.1.len
 by_cases h : ((b.length : Int) - a.length) * 2 > m
 ·rw [if_pos h]
  exact ⟨fun q => by lia, fun z1 => .inr rfl⟩
 ·rw [if_neg h]
  have hr : RowOk c [] a [] (row0 a.length) := by have := row0_ok (c := c) a [] 0 rfl; simpa [row0] using this
  exact rowsL_ok hc ha m b [] (row0 a.length) 0 d hr hd (fun q => absurd q hb)
theorem midL_ok (hc : CostOk c) {a b : List Nat} {d : Nat} (hd : Dist c a b d) (m : Int) : Near d m (midL c a b m) := by
 unfold midL
 by_cases h : (a.isEmpty || b.isEmpty) = true
 ·rw [if_pos h]
  have : (d : Int) = 2 * ((a.length : Int) + b.length) := by
   simp only [Bool.or_eq_true, List.isEmpty_iff] at h
   rcases h with rfl | rfl
   ·have := (dist_nil_left (c := c) b).unique hd
    simp; lia
   ·have := (dist_nil_right (c := c) a).unique hd
    simp; lia
  rw [← this]
  exact ⟨fun z1 => rfl, fun z1 => .inl rfl⟩
 ·rw [if_neg h]
  simp only [Bool.or_eq_true, List.isEmpty_iff, not_or] at h
  by_cases hl : b.length < a.length
  ·rw [if_pos hl]; exact tailL_ok hc h.2 (hd.symm hc) m (Nat.le_of_lt hl) h.1
  ·rw [if_neg hl]; exact tailL_ok hc h.1 hd m (Nat.le_of_not_lt hl) h.2
theorem levP_ok (hc : CostOk c) {a b : List Nat} {d : Nat} (hd : Dist c a b d) (m : Int) : Near d m (levP c a b m) := by
 unfold levP
 by_cases h : a = b
 ·rw [if_pos h]
  subst h
  obtain rfl := hd.unique (dist_same hc a)
  exact ⟨fun z1 => rfl, fun z1 => .inl rfl⟩
 ·rw [if_neg h]
  exact midL_ok hc ((dist_take hc).mpr ((dist_drop hc).mpr hd)) m
theorem dist_ex (hc : CostOk c) (a b : List Nat) : ∃ d, Dist c a b d := by
 have h : ∃ n, Al c a b n := ⟨_, by have := (Al.dels (c := c) a).append (Al.inss b); simpa using this⟩
 obtain ⟨n, hn⟩ := h
 induction n using Nat.strongRecOn with
 | _ n ih =>
  by_cases hm : ∃ m, m < n ∧ Al c a b m
  ·obtain ⟨m, h1, h2⟩ := hm
   exact ih m h1 h2
  ·exact ⟨n, hn, fun k hk => Nat.le_of_not_lt fun q => hm ⟨k, q, hk⟩⟩
theorem levP_le (hc : CostOk c) {a b : List Nat} {d : Nat} (hd : Dist c a b d) (m : Int) : levP c a b m ≤ m ↔ (d : Int) ≤ m := by
 have h := levP_ok hc hd m
 constructor
 ·intro q
  by_cases h1 : (d : Int) ≤ m
  ·exact h1
  ·rcases h.2 (by lia) with e | e <;> lia
 ·intro q; rw [h.1 q]; exact q
end Rs.Internal.M
end
section
set_option tactic.hygienic false
namespace Rs.Internal.M
open PySem
section
variable {G : Gl} {φ : Nat → List PV → Option PV} {F : Nat}
theorem ss_nil {σ : Store} : exSs G φ F .nil σ = some (.nx, σ) := rfl
theorem ss_cons {s : S} {r : Ss} {σ σ' : Store} (h : exS G φ F s σ = some (.nx, σ')) : exSs G φ F (.cons s r) σ = exSs G φ F r σ' := obnd h rfl
theorem ss_ret {s : S} {r : Ss} {σ σ' : Store} {p : PV} (h : exS G φ F s σ = some (.rt p, σ')) : exSs G φ F (.cons s r) σ = some (.rt p, σ') := obnd h rfl
theorem s_asg {fr : List Nat} {i : Nat} {e : X} {σ : Store} {v : PV} (h : evX G φ e (frz fr σ) = some v) : exS G φ F (.asg fr i e) σ = some (.nx, setS (frz fr σ) i v) := obnd h rfl
theorem s_if {fr : List Nat} {c : X} {t e : Ss} {σ : Store} {v : PV} {b : Bool} (h : evX G φ c (frz fr σ) = some v) (hb : v.truth = some b) : exS G φ F (.ifS fr c t e) σ = if b then exSs G φ F t (frz fr σ) else exSs G φ F e (frz fr σ) := obnd h (obnd hb rfl)
theorem s_if0 {c : X} {t e : Ss} {σ : Store} {v : PV} {b : Bool} (h : evX G φ c σ = some v) (hb : v.truth = some b) : exS G φ F (.ifS [] c t e) σ = if b then exSs G φ F t σ else exSs G φ F e σ := s_if (fr := []) h hb
theorem s_asg0 {i : Nat} {e : X} {σ : Store} {v : PV} (h : evX G φ e σ = some v) : exS G φ F (.asg [] i e) σ = some (.nx, setS σ i v) := s_asg (fr := []) h
theorem s_ret {fr : List Nat} {e : X} {σ : Store} {v : PV} (h : evX G φ e (frz fr σ) = some v) : exS G φ F (.ret fr e) σ = some (.rt v, frz fr σ) := obnd h rfl
theorem s_aug {fr : List Nat} {i : Nat} {op : Operator} {e : X} {σ : Store} {p v r : PV} (hp : getS (frz fr σ) i = .val p) (h : evX G φ e (frz fr σ) = some v) (hr : augP op p v = some r) : exS G φ F (.aug fr i op e) σ = some (.nx, setS (frz fr σ) i r) := obnd (show (getS (frz fr σ) i).val? = some p by rw [hp]; rfl) (obnd h (obnd hr rfl))
theorem run_fn {f : Fn} {args : List PV} {p : PV} {σ : Store} (hl : args.length = f.np) (h : exSs G φ F f.body (args.map Slot.val ++ List.replicate (f.ns - f.np) .no) = some (.rt p, σ)) : runFn G φ F f args = some p := by
 exact (if_pos hl).trans (obnd h rfl)
theorem fitL_le {n : Nat} (h : n ≤ 1048576) : fitL n = true := by unfold fitL; exact Nat.ble_eq_true_of_le h
theorem truth_str {s : List Nat} (h : s.length ≤ 1048576) : (PV.str s).truth = some (!s.isEmpty) := by
 exact if_pos (Nat.ble_eq_true_of_le h)
theorem small_of {i : Int} (h1 : -1000000000 ≤ i) (h2 : i ≤ 1000000000) : small i = true := by
 unfold small; simp only [Bool.and_eq_true, decide_eq_true_eq]; lia
variable {σ : Store} {a b c : X} {x y z r : PV}
theorem ev_glob {i : Nat} (h : G.const[i]? = some x) : evX G φ (.glob i) σ = some x := h
theorem ev_bin {op : Operator} (ha : evX G φ a σ = some x) (hb : evX G φ b σ = some y) (h : binP op x y = some r) : evX G φ (.bin op a b) σ = some r := obnd ha (obnd hb h)
theorem ev_neg {i : Int} (ha : evX G φ a σ = some (.int i)) : evX G φ (.neg a) σ = some (.int (-i)) := obnd ha rfl
theorem ev_not {t : Bool} (ha : evX G φ a σ = some x) (h : x.truth = some t) : evX G φ (.notX a) σ = some (.bool (!t)) := obnd ha (obnd h rfl)
theorem ev_and_t (ha : evX G φ a σ = some x) (h : x.truth = some true) : evX G φ (.andX a b) σ = evX G φ b σ := obnd ha (obnd h rfl)
theorem ev_and_f (ha : evX G φ a σ = some x) (h : x.truth = some false) : evX G φ (.andX a b) σ = some x := obnd ha (obnd h rfl)
theorem ev_or_t (ha : evX G φ a σ = some x) (h : x.truth = some true) : evX G φ (.orX a b) σ = some x := obnd ha (obnd h rfl)
theorem ev_or_f (ha : evX G φ a σ = some x) (h : x.truth = some false) : evX G φ (.orX a b) σ = evX G φ b σ := obnd ha (obnd h rfl)
theorem ev_cmp {op : CmpOp} {t : Bool} (ha : evX G φ a σ = some x) (hb : evX G φ b σ = some y) (h : cmpP op x y = some t) : evX G φ (.cmp op a b) σ = some (.bool t) := obnd ha (obnd hb (omap h))
theorem ev_ite {t : Bool} (hc : evX G φ c σ = some x) (h : x.truth = some t) : evX G φ (.ite c a b) σ = if t then evX G φ a σ else evX G φ b σ := obnd hc (obnd h rfl)
theorem ev_idx (ha : evX G φ a σ = some x) (hb : evX G φ b σ = some y) (h : idxP x y = some r) : evX G φ (.idx a b) σ = some r := obnd ha (obnd hb h)
theorem ev_idxO {i : Nat} {l : List PV} (hi : getS σ i = .own l) (hb : evX G φ b σ = some y) (h : idxP (.lst l) y = some r) : evX G φ (.idxO i b) σ = some r := by
 show (match getS σ i with
   | .own l => (evX G φ b σ).bind fun y => idxP (.lst l) y
   | .val p => (evX G φ b σ).bind fun y => idxP p y
   | .no => none) = _
 rw [hi]
 exact obnd hb h
theorem ev_lenO {i : Nat} {l : List PV} (hi : getS σ i = .own l) (hl : l.length ≤ 1048576) : evX G φ (.lenO i) σ = some (.int l.length) := by
 show (match getS σ i with
   | .own l => bfP .len [.lst l]
   | .val p => bfP .len [p]
   | .no => none) = _
 rw [hi]
 exact if_pos (fitL_le hl)
theorem ev_slc (ha : evX G φ a σ = some x) (hb : evX G φ b σ = some y) (hc : evX G φ c σ = some z) (h : slcP x y z = some r) : evX G φ (.slc a b c) σ = some r := obnd ha (obnd hb (obnd hc h))
theorem xs_nil : evXs G φ .nil σ = some [] := rfl
theorem xs_cons {l : Xs} {q : List PV} (ha : evX G φ a σ = some x) (hl : evXs G φ l σ = some q) : evXs G φ (.cons a l) σ = some (x :: q) := obnd ha (obnd hl rfl)
theorem ev_bf {f : Bf} {l : Xs} {q : List PV} (hl : evXs G φ l σ = some q) (h : bfP f q = some r) : evX G φ (.bf f l) σ = some r := obnd hl h
theorem ev_len {s : List Nat} (ha : evX G φ a σ = some (.str s)) (hl : s.length ≤ 1048576) : evX G φ (.bf .len (.cons a .nil)) σ = some (.int s.length) :=
 ev_bf (xs_cons ha xs_nil) (if_pos (fitL_le hl))
theorem ev_mf {f : Mf} {l : Xs} {q : List PV} (ha : evX G φ a σ = some x) (hl : evXs G φ l σ = some q) (h : mfP f x q = some r) : evX G φ (.mf f a l) σ = some r := obnd ha (obnd hl h)
theorem ev_call {f : Nat} {l : Xs} {q : List PV} (hl : evXs G φ l σ = some q) (h : φ f q = some r) : evX G φ (.call f l) σ = some r := obnd hl h
theorem ev_tup {l : Xs} {q : List PV} (hl : evXs G φ l σ = some q) (h : q.length ≤ 1048576) : evX G φ (.tup l) σ = some (.tup q) := obnd hl (if_pos (fitL_le h))
theorem ev_list {l : Xs} {q : List PV} (hl : evXs G φ l σ = some q) (h : q.length ≤ 1048576) : evX G φ (.list l) σ = some (.lst q) := obnd hl (if_pos (fitL_le h))
theorem s_asgO {fr : List Nat} {i : Nat} {e : X} {l : List PV} (h : evX G φ e (frz fr σ) = some (.lst l)) : exS G φ F (.asgO fr i e) σ = some (.nx, (frz fr σ).set i (.own l)) := obnd h rfl
theorem s_asgP {fr : List Nat} {ts : List (Nat × Bool)} {es : Xs} {vs : List PV} {σ' : Store} (h : evXs G φ es (frz fr σ) = some vs) (h' : storeP (frz fr σ) ts vs = some σ') : exS G φ F (.asgP fr ts es) σ = some (.nx, σ') := obnd h (obnd h' rfl)
theorem s_asrt (h : evX G φ c σ = some x) (ht : x.truth = some true) : exS G φ F (.asrt c) σ = some (.nx, σ) := obnd h (obnd ht rfl)
theorem s_del {i : Nat} {last : Bool} {p : PV} {l : List PV} (h : getS σ i = .own (p :: l)) (hl : (p :: l).length ≤ 1048576) : exS G φ F (.delI i last) σ = some (.nx, σ.set i (.own (if last then (p :: l).dropLast else l))) := obnd (show (getS σ i).own? = some (p :: l) by rw [h]; rfl) (if_pos (fitL_le hl))
theorem s_for {fr : List Nat} {tg : List Nat} {one : Bool} {it : It} {b : Ss} {vs : List PV} (h : evIt G φ it (frz fr σ) = some vs) : exS G φ F (.forS fr tg one it b) σ = forLoop one tg (fun σ => exSs G φ F b σ) vs (frz fr σ) := obnd h rfl
theorem it_val {l : List PV} (ha : evX G φ a σ = some x) (hi : itemsP x = some l) (hl : l.length ≤ 1048576) : evIt G φ (.val a) σ = some l := obnd ha (obnd hi (if_pos (fitL_le hl)))
theorem ev_comp {caps : List Nat} {own : Nat} {tg : List Nat} {one : Bool} {it : It} {ifs : Xs} {gs : Gs} {vs out : List PV} (hi : evIt G φ it σ = some vs)
  (h : compLoop (fun v => (bindTg one tg v (clr (tg ++ gs.tgs) (caps.map (fun i => capS (getS σ i)) ++ List.replicate own .no))).bind fun σ'' => (evIfs G φ ifs σ'').bind fun t => if t then evGs G φ gs σ'' else some []) vs = some out) (hl : out.length ≤ 1048576) :
  evX G φ (.comp caps own tg one it ifs gs) σ = some (.lst out) := obnd hi (obnd h (if_pos (fitL_le hl)))
theorem for_cons {one : Bool} {tg : List Nat} {f : Store → Option (Fl × Store)} {v : PV} {l : List PV} {σ₁ σ₂ : Store} (hb : bindTg one tg v σ = some σ₁) (hf : f σ₁ = some (.nx, σ₂)) : forLoop one tg f (v :: l) σ = forLoop one tg f l σ₂ := obnd hb (obnd hf rfl)
theorem for_ret {one : Bool} {tg : List Nat} {f : Store → Option (Fl × Store)} {v p : PV} {l : List PV} {σ₁ σ₂ : Store} (hb : bindTg one tg v σ = some σ₁) (hf : f σ₁ = some (.rt p, σ₂)) : forLoop one tg f (v :: l) σ = some (.rt p, σ₂) := obnd hb (obnd hf rfl)
theorem wh_true {cd : Store → Option Bool} {f : Store → Option (Fl × Store)} {n : Nat} {σ₂ : Store} (hc : cd σ = some true) (hf : f σ = some (.nx, σ₂)) : whileLoop cd f (n + 1) σ = whileLoop cd f n σ₂ := obnd hc (obnd hf rfl)
theorem wh_false {cd : Store → Option Bool} {f : Store → Option (Fl × Store)} {n : Nat} (hc : cd σ = some false) : whileLoop cd f (n + 1) σ = some (.nx, σ) := obnd hc rfl
end
end Rs.Internal.M
end
section
set_option tactic.hygienic false
namespace Rs.Internal.M
open PySem
section
variable {G : Gl} {φ : Nat → List PV → Option PV} {F : Nat}
noncomputable def bMatch : Ss := (.cons (.asg [] 3 (.mf .find4 (.var 1) (.cons (.var 5) (.cons (.var 3) (.cons (.var 4) .nil)))))
  (.cons (.ifS [] (.cmp .Lt (.var 3) (.const (.int 0))) (.cons (.ret [] (.const (.bool false)))
   .nil) .nil)
  (.cons (.aug [] 3 .Add (.bf .len (.cons (.var 5) .nil)))
  .nil)))
noncomputable def fMatch (gE : Nat) : Fn := { np := 2, ns := 6, body :=
 (.cons (.ifS [] (.cmp .NotIn (.glob gE) (.var 0)) (.cons (.ret [] (.cmp .Eq (.var 0) (.var 1)))
  .nil) .nil)
 (.cons (.asgO [] 2 (.mf .split (.var 0) (.cons (.glob gE) .nil)))
 (.cons (.asrt (.cmp .GtE (.lenO 2) (.const (.int 2))))
 (.cons (.asgP [] [(3, false), (4, false)] (.cons (.const (.int 0)) (.cons (.bf .len (.cons (.var 1) .nil)) .nil)))
 (.cons (.asg [] 5 (.idxO 2 (.const (.int 0))))
 (.cons (.ifS [] (.var 5) (.cons (.ifS [] (.mf .startswith (.var 1) (.cons (.var 5) .nil)) (.cons (.asg [] 3 (.bf .len (.cons (.var 5) .nil)))
   (.cons (.delI 2 false)
   .nil)) (.cons (.ret [] (.const (.bool false)))
   .nil))
  .nil) .nil)
 (.cons (.asg [] 5 (.idxO 2 (.neg (.const (.int 1)))))
 (.cons (.ifS [] (.var 5) (.cons (.ifS [] (.mf .endswith (.var 1) (.cons (.var 5) .nil)) (.cons (.aug [] 4 .Sub (.bf .len (.cons (.var 5) .nil)))
   (.cons (.delI 2 true)
   .nil)) (.cons (.ret [] (.const (.bool false)))
   .nil))
  .nil) .nil)
 (.cons (.ifS [] (.cmp .Gt (.var 3) (.var 4)) (.cons (.ret [] (.const (.bool false)))
  .nil) .nil)
 (.cons (.forS [2] [5] true (.val (.var 2)) bMatch)
 (.cons (.ret [] (.const (.bool true)))
 .nil))))))))))) }
noncomputable abbrev strsV (l : List (List Nat)) : List PV := l.map .str
theorem match_loop (want got : List Nat) (en : Nat) (l : PV) (hen : en ≤ got.length) (hg : got.length ≤ 100000) : ∀ (ws : List (List Nat)) (st : Nat) (x : Slot), st ≤ en → (∀ w ∈ ws, w.length ≤ 100000) →
  (loopM got en ws st = true → ∃ st' x', forLoop true [5] (fun σ => exSs G φ F bMatch σ) (strsV ws) [.val (.str want), .val (.str got), .val l, .val (.int st), .val (.int en), x] =
   some (.nx, [.val (.str want), .val (.str got), .val l, .val (.int st'), .val (.int en), x'])) ∧
  (loopM got en ws st = false → ∃ σ', forLoop true [5] (fun σ => exSs G φ F bMatch σ) (strsV ws) [.val (.str want), .val (.str got), .val l, .val (.int st), .val (.int en), x] = some (.rt (.bool false), σ')) := by
 intro ws
 induction ws with
 | nil =>
  intro st x h _
  exact ⟨fun z1 => ⟨st, x, rfl⟩, fun q => nomatch q⟩
 | cons w ws ih__ =>
  intro st x h hw
  have hwl := hw w (List.mem_cons_self ..)
  have e0 : forLoop true [5] (fun σ => exSs G φ F bMatch σ) (strsV (w :: ws)) [.val (.str want), .val (.str got), .val l, .val (.int st), .val (.int en), x] =
    (exSs G φ F bMatch [.val (.str want), .val (.str got), .val l, .val (.int st), .val (.int en), .val (.str w)]).bind fun y => match y.1 with
     | .nx => forLoop true [5] (fun σ => exSs G φ F bMatch σ) (strsV ws) y.2
     | .rt p => some (.rt p, y.2) := by rfl
  rw [e0]
  have e1 : evX G φ (.mf .find4 (.var 1) (.cons (.var 5) (.cons (.var 3) (.cons (.var 4) .nil)))) [.val (.str want), .val (.str got), .val l, .val (.int st), .val (.int en), .val (.str w)] = some (.int (findL got w st en)) := by
   show find4P (.str got) [.str w, .int st, .int en] = _
   have c : (decide ((0 : Int) ≤ st) && decide ((st : Int) ≤ en) && decide ((en : Int) ≤ got.length) && fitL got.length) = true := by
    simp only [Bool.and_eq_true, decide_eq_true_eq]
    exact ⟨⟨⟨by lia, by lia⟩, by lia⟩, fitL_le (by lia)⟩
   simp only [find4E, c, if_true, Int.toNat_natCast]
  have e2 : exSs G φ F bMatch [.val (.str want), .val (.str got), .val l, .val (.int st), .val (.int en), .val (.str w)] =
    if findL got w st en < 0 then some (.rt (.bool false), [.val (.str want), .val (.str got), .val l, .val (.int (findL got w st en)), .val (.int en), .val (.str w)])
    else some (.nx, [.val (.str want), .val (.str got), .val l, .val (.int (findL got w st en + w.length)), .val (.int en), .val (.str w)]) := by
   unfold bMatch
   rw [ss_cons (s_asg (fr := []) e1)]
   have e3 : exS G φ F (.ifS [] (.cmp .Lt (.var 3) (.const (.int 0))) (.cons (.ret [] (.const (.bool false))) .nil) .nil) (setS (frz [] [.val (.str want), .val (.str got), .val l, .val (.int st), .val (.int en), .val (.str w)]) 3 (.int (findL got w st en))) =
     if decide (findL got w st en < 0) = true then some (.rt (.bool false), [.val (.str want), .val (.str got), .val l, .val (.int (findL got w st en)), .val (.int en), .val (.str w)])
     else some (.nx, [.val (.str want), .val (.str got), .val l, .val (.int (findL got w st en)), .val (.int en), .val (.str w)]) :=
    s_if0 (v := .bool (decide (findL got w st en < 0))) rfl rfl
   by_cases hneg : findL got w st en < 0
   ·rw [if_pos hneg]
    rw [if_pos (decide_eq_true hneg)] at e3
    exact ss_ret e3
   ·rw [if_neg hneg]
    rw [if_neg (by simpa using hneg)] at e3
    refine (ss_cons e3).trans ?_
    refine (ss_cons (s_aug (fr := []) (p := .int (findL got w st en)) (v := .int w.length) (r := .int (findL got w st en + w.length)) rfl ?_ rfl)).trans rfl
    show lenP [.str w] = _
    simp only [lenS, lenL, fitL_le (show w.length ≤ 1048576 by lia), if_true]
  rw [e2]
  unfold loopM
  by_cases hneg : findL got w st en < 0
  ·rw [if_pos hneg, if_pos hneg]
   exact ⟨fun q => (nomatch q), fun z1 => ⟨_, rfl⟩⟩
  ·rw [if_neg hneg, if_neg hneg]
   refine cps fun PP kk => ?_
   obtain ⟨u, r, e4, e5, _⟩ := findL_pos hneg
   refine kk ?_
   clear kk PP
   have hle : (findL got w st en).toNat + w.length ≤ en := by
    have := congrArg List.length e4
    simp at this
    lia
   have hcast : (findL got w st en + w.length : Int) = (((findL got w st en).toNat + w.length : Nat) : Int) := by lia
   rw [hcast]
   exact ih__ _ (.val (.str w)) hle fun v hv => hw v (List.mem_cons_of_mem _ hv)
theorem pieces_len : ∀ (p : List Tok) (n : Nat), p.length ≤ n → ∀ w ∈ piecesT p, w.length ≤ n
 | [], n, z1, w, hw => by rw [List.mem_singleton.mp hw]; exact Nat.zero_le _
 | none :: p, n, h, w, hw => by
  rcases List.mem_cons.mp hw with rfl | q
  ·simp
  ·exact pieces_len p n (by simp at h; lia) w q
 | some c :: p, n, h, w, hw => by
  replace hw : w ∈ consP c (piecesT p) := hw
  have ih := pieces_len p (n - 1) (by simp at h; lia)
  have hn : 1 ≤ n := by simp at h; lia
  cases hp : piecesT p with
  | nil => exact absurd hp (piecesT_ne p)
  | cons v vs =>
   rw [hp] at hw ih
   rcases List.mem_cons.mp hw with rfl | q
   ·have := ih v (List.mem_cons_self ..)
    simp; lia
   ·have := ih w (List.mem_cons_of_mem _ q)
    lia
theorem toks_len : ∀ (n : Nat) (s : List Nat), s.length ≤ n → (toks s).length ≤ s.length
 | z1, [], z2 => Nat.le_refl _
 | 0, c :: r, h => by simp at h
 | n + 1, c :: r, h => by
  by_cases hp : ∃ q, c :: r = 46 :: 46 :: 46 :: q
  ·obtain ⟨q, e⟩ := hp
   rw [e, toks_dots]
   have hq := congrArg List.length e
   simp at hq h
   have := toks_len n q (by lia)
   simp; lia
  ·rw [toks_other hp]
   have := toks_len n r (by simpa using h)
   simp; exact this
theorem pieces_cnt : ∀ p : List Tok, (piecesT p).length ≤ p.length + 1
 | [] => Nat.le_refl _
 | none :: p => by
  have := pieces_cnt p
  exact Nat.succ_le_succ this
 | some c :: p => by
  have ih := pieces_cnt p
  show (consP c (piecesT p)).length ≤ _
  cases hq : piecesT p with
  | nil => exact Nat.succ_le_succ (Nat.zero_le _)
  | cons x xs => rw [hq] at ih; exact Nat.le_succ_of_le ih
theorem idx_last {l : List PV} {p : PV} (hl : l.length + 1 ≤ 1000000) : idxP (.lst (l ++ [p])) (.int (-1)) = some p := by
 have : small (-1) = true := by decide
 have h1 : place (l ++ [p]).length (-1) = some l.length := by
  unfold place
  rw [if_neg (by decide), if_pos (by simp; lia)]
  congr 1
  simp; lia
 simp only [idxS, idxL, this, if_true, h1, Option.bind_some]
 simp
theorem idx_head {l : List PV} {p : PV} : idxP (.lst (p :: l)) (.int 0) = some p := by
 have : small 0 = true := by decide
 have h1 : place (p :: l).length 0 = some 0 := by
  unfold place
  rw [if_pos (by decide), if_pos (by simp)]
  rfl
 simp only [idxS, idxL, this, if_true, h1, Option.bind_some]
 simp
theorem match_rest {want got : List Nat} {w : List Nat} {l : List (List Nat)} {v : List Nat} {x : Slot} (hg : got.length ≤ 100000) (hwl : w.length ≤ got.length) (hll : l.length + 1 ≤ 200000) (hlen : ∀ u ∈ l ++ [v], u.length ≤ 100000) :
  ∃ σ, exSs G φ F (.cons (.asg [] 5 (.idxO 2 (.neg (.const (.int 1)))))
 (.cons (.ifS [] (.var 5) (.cons (.ifS [] (.mf .endswith (.var 1) (.cons (.var 5) .nil)) (.cons (.aug [] 4 .Sub (.bf .len (.cons (.var 5) .nil)))
   (.cons (.delI 2 true)
   .nil)) (.cons (.ret [] (.const (.bool false)))
   .nil))
  .nil) .nil)
 (.cons (.ifS [] (.cmp .Gt (.var 3) (.var 4)) (.cons (.ret [] (.const (.bool false)))
  .nil) .nil)
 (.cons (.forS [2] [5] true (.val (.var 2)) bMatch)
 (.cons (.ret [] (.const (.bool true)))
 .nil))))) [.val (.str want), .val (.str got), .own (strsV (l ++ [v])), .val (.int w.length), .val (.int got.length), x] =
  some (.rt (.bool (if !v.isEmpty && !List.isSuffixOf v got then false else if got.length - v.length < w.length then false else loopM got (got.length - v.length) (initIf v (l ++ [v])) w.length)), σ) := by
 have hvl := hlen v (by simp)
 have hown : strsV (l ++ [v]) = strsV l ++ [.str v] := by simp
 rw [ss_cons (σ' := [.val (.str want), .val (.str got), .own (strsV (l ++ [v])), .val (.int w.length), .val (.int got.length), .val (.str v)]) (s_asg (fr := []) (v := .str v) (ev_idxO (l := strsV (l ++ [v])) rfl (ev_neg (i := 1) rfl) (by rw [hown]; exact idx_last (by rw [List.length_map]; lia))))]
 have fin : ∀ (ws : List (List Nat)) (en : Nat), en ≤ got.length → (∀ u ∈ ws, u.length ≤ 100000) → ws.length ≤ 200000 → ∃ σ, exSs G φ F (.cons (.ifS [] (.cmp .Gt (.var 3) (.var 4)) (.cons (.ret [] (.const (.bool false)))
  .nil) .nil)
 (.cons (.forS [2] [5] true (.val (.var 2)) bMatch)
 (.cons (.ret [] (.const (.bool true)))
 .nil))) [.val (.str want), .val (.str got), .own (strsV ws), .val (.int w.length), .val (.int en), .val (.str v)] = some (.rt (.bool (if en < w.length then false else loopM got en ws w.length)), σ) := fun ws en hen hws hwc => by
  have e1 := s_if0 (F := F) (t := (.cons (.ret [] (.const (.bool false))) .nil)) (e := .nil) (σ := [.val (.str want), .val (.str got), .own (strsV ws), .val (.int w.length), .val (.int en), .val (.str v)])
   (ev_cmp (G := G) (φ := φ) (op := .Gt) (a := .var 3) (b := .var 4) (x := .int w.length) (y := .int en) rfl rfl rfl) rfl
  by_cases hlt : en < w.length
  ·rw [if_pos (by simpa using hlt)] at e1
   rw [if_pos hlt]
   exact ⟨_, ss_ret (e1.trans rfl)⟩
  ·rw [if_neg (by simpa using hlt)] at e1
   rw [if_neg hlt, ss_cons (e1.trans ss_nil)]
   have e2 : exS G φ F (.forS [2] [5] true (.val (.var 2)) bMatch) [.val (.str want), .val (.str got), .own (strsV ws), .val (.int w.length), .val (.int en), .val (.str v)] = _ :=
    s_for (vs := strsV ws) (it_val (x := .lst (strsV ws)) rfl rfl (by rw [List.length_map]; lia))
   obtain ⟨h1, h2⟩ := match_loop (G := G) (φ := φ) (F := F) want got en (.lst (strsV ws)) hen hg ws w.length (.val (.str v)) (by lia) hws
   cases hl : loopM got en ws w.length with
   | true =>
    obtain ⟨st', x', e3⟩ := h1 hl
    rw [ss_cons (e2.trans e3)]
    exact ⟨_, ss_ret (s_ret (fr := []) rfl)⟩
   | false =>
    obtain ⟨σ', e3⟩ := h2 hl
    exact ⟨_, ss_ret (e2.trans e3)⟩
 have hws : ∀ u ∈ initIf v (l ++ [v]), u.length ≤ 100000 := fun u hu => by
  unfold initIf at hu
  split at hu
  ·exact hlen u hu
  ·rw [List.dropLast_concat] at hu
   exact hlen u (List.mem_append_left _ hu)
 by_cases hv : v = []
 ·subst hv
  have e3 := s_if0 (F := F) (t := (.cons (.ifS [] (.mf .endswith (.var 1) (.cons (.var 5) .nil)) (.cons (.aug [] 4 .Sub (.bf .len (.cons (.var 5) .nil))) (.cons (.delI 2 true) .nil)) (.cons (.ret [] (.const (.bool false))) .nil)) .nil)) (e := .nil)
   (σ := [.val (.str want), .val (.str got), .own (strsV (l ++ [[]])), .val (.int w.length), .val (.int got.length), .val (.str [])]) (c := .var 5) (G := G) (φ := φ) (v := .str []) rfl (truth_str (by simp))
  rw [ss_cons (σ' := [.val (.str want), .val (.str got), .own (strsV (l ++ [[]])), .val (.int w.length), .val (.int got.length), .val (.str [])]) (e3.trans rfl)]
  have := fin (l ++ [[]]) got.length (Nat.le_refl _) hlen (by simp; lia)
  simpa [initIf] using this
 ·have hve : v.isEmpty = false := by cases v with | nil => exact absurd rfl hv | cons z1 z2 => rfl
  have e3 := s_if0 (F := F) (t := (.cons (.ifS [] (.mf .endswith (.var 1) (.cons (.var 5) .nil)) (.cons (.aug [] 4 .Sub (.bf .len (.cons (.var 5) .nil))) (.cons (.delI 2 true) .nil)) (.cons (.ret [] (.const (.bool false))) .nil)) .nil)) (e := .nil)
   (σ := [.val (.str want), .val (.str got), .own (strsV (l ++ [v])), .val (.int w.length), .val (.int got.length), .val (.str v)]) (c := .var 5) (G := G) (φ := φ) (v := .str v) rfl (truth_str (by lia))
  rw [hve, Bool.not_false, if_pos rfl] at e3
  have e4 := s_if0 (F := F) (t := (.cons (.aug [] 4 .Sub (.bf .len (.cons (.var 5) .nil))) (.cons (.delI 2 true) .nil))) (e := (.cons (.ret [] (.const (.bool false))) .nil))
   (σ := [.val (.str want), .val (.str got), .own (strsV (l ++ [v])), .val (.int w.length), .val (.int got.length), .val (.str v)]) (c := .mf .endswith (.var 1) (.cons (.var 5) .nil)) (G := G) (φ := φ) (v := .bool (List.isSuffixOf v got)) rfl rfl
  by_cases hsuf : List.isSuffixOf v got = true
  ·rw [hsuf, if_pos rfl] at e4
   have hle : v.length ≤ got.length := (List.isSuffixOf_iff_suffix.mp hsuf).length_le
   have e5 : exSs G φ F (.cons (.aug [] 4 .Sub (.bf .len (.cons (.var 5) .nil))) (.cons (.delI 2 true) .nil)) [.val (.str want), .val (.str got), .own (strsV (l ++ [v])), .val (.int w.length), .val (.int got.length), .val (.str v)] =
     some (.nx, [.val (.str want), .val (.str got), .own (strsV l), .val (.int w.length), .val (.int (got.length - v.length : Nat)), .val (.str v)]) := by
    rw [ss_cons (σ' := [.val (.str want), .val (.str got), .own (strsV (l ++ [v])), .val (.int w.length), .val (.int ((got.length : Int) - v.length)), .val (.str v)]) (s_aug (fr := []) (p := .int got.length) (v := .int v.length) (r := .int ((got.length : Int) - v.length)) rfl (ev_len (s := v) rfl (by lia)) rfl)]
    obtain ⟨p, q, hpq⟩ : ∃ p q, strsV (l ++ [v]) = p :: q := by
     cases h : strsV (l ++ [v]) with
     | nil => have := congrArg List.length h; simp at this
     | cons p q => exact ⟨p, q, rfl⟩
    rw [ss_cons (s_del (i := 2) (p := p) (l := q) (by rw [← hpq]; rfl) (by rw [← hpq, List.length_map, List.length_append]; simp; lia)), ss_nil]
    rw [if_pos rfl, ← hpq, hown, List.dropLast_concat]
    have hc : ((got.length : Int) - v.length) = ((got.length - v.length : Nat) : Int) := by lia
    rw [hc]; rfl
   rw [ss_cons (e3.trans ((ss_cons (e4.trans e5)).trans ss_nil))]
   have := fin l (got.length - v.length) (Nat.sub_le _ _) (fun u hu => hlen u (List.mem_append_left _ hu)) (by lia)
   simpa [initIf, hve, hsuf] using this
  ·have hsuf : List.isSuffixOf v got = false := Bool.eq_false_iff.mpr hsuf
   rw [hsuf, if_neg Bool.false_ne_true] at e4
   rw [hve, hsuf]
   exact ⟨_, ss_ret (e3.trans (ss_ret (e4.trans (ss_ret (s_ret (fr := []) rfl)))))⟩
theorem run_match {gE : Nat} (hE : G.const[gE]? = some (.str dots3)) {want got : List Nat} (hw : want.length ≤ 100000) (hg : got.length ≤ 100000) : runFn G φ F (fMatch gE) [.str want, .str got] = some (.bool (matchP want got)) := by
 suffices h : ∃ σ, exSs G φ F (fMatch gE).body [.val (.str want), .val (.str got), .no, .no, .no, .no] = some (.rt (.bool (matchP want got)), σ) by
  obtain ⟨σ, h⟩ := h
  exact run_fn rfl h
 unfold fMatch matchP
 have e1 := s_if0 (F := F) (t := (.cons (.ret [] (.cmp .Eq (.var 0) (.var 1))) .nil)) (e := .nil) (σ := [.val (.str want), .val (.str got), .no, .no, .no, .no])
  (ev_cmp (G := G) (φ := φ) (op := .NotIn) (b := .var 0) (ev_glob hE) (y := .str want) rfl (cNin _ _)) rfl
 by_cases hs : subIn dots3 want = true
 ·rw [if_pos hs]
  rw [hs, if_neg (by decide)] at e1
  dsimp only
  rw [ss_cons (e1.trans ss_nil)]
  obtain ⟨w, ms, v, hp⟩ := pieces_two (toks_gap want hs)
  have hsp : splitL want dots3 = w :: (ms ++ [v]) := by rw [split_toks]; exact hp
  have hlen : ∀ u ∈ w :: (ms ++ [v]), u.length ≤ 100000 := fun u hu => by
   rw [← hp] at hu
   have h1 := pieces_len (toks want) _ (toks_len _ want (Nat.le_refl _)) u hu
   lia
  have hcnt : (w :: (ms ++ [v])).length ≤ 200000 := by
   rw [← hp]
   have h2 := pieces_cnt (toks want)
   have h3 := toks_len _ want (Nat.le_refl _)
   lia
  rw [hsp]
  have hwl := hlen w (List.mem_cons_self ..)
  have e2 : evX G φ (.mf .split (.var 0) (.cons (.glob gE) .nil)) [.val (.str want), .val (.str got), .no, .no, .no, .no] = some (.lst (strsV (w :: (ms ++ [v])))) := by
   refine ev_mf (x := .str want) rfl (xs_cons (ev_glob hE) xs_nil) ?_
   simp only [mfSplit, splitE, fitL_le (show want.length ≤ 1048576 by lia), List.isEmpty_cons, Bool.not_false, Bool.and_self, if_true, hsp]
  rw [ss_cons (σ' := [.val (.str want), .val (.str got), .own (strsV (w :: (ms ++ [v]))), .no, .no, .no]) (s_asgO (fr := []) e2)]
  have hlc : (strsV (w :: (ms ++ [v]))).length = (w :: (ms ++ [v])).length := List.length_map ..
  have e3 : evX G φ (.cmp .GtE (.lenO 2) (.const (.int 2))) [.val (.str want), .val (.str got), .own (strsV (w :: (ms ++ [v]))), .no, .no, .no] = some (.bool true) := by
   refine ev_cmp (ev_lenO (l := strsV (w :: (ms ++ [v]))) rfl (by rw [hlc]; lia)) (y := .int 2) rfl ?_
   simp only [cGe, cNin, hlc]
   congr 1
   simp
   lia
  rw [ss_cons (σ' := [.val (.str want), .val (.str got), .own (strsV (w :: (ms ++ [v]))), .no, .no, .no]) (s_asrt e3 rfl)]
  rw [ss_cons (σ' := [.val (.str want), .val (.str got), .own (strsV (w :: (ms ++ [v]))), .val (.int 0), .val (.int got.length), .no]) (s_asgP (fr := []) (xs_cons (x := .int 0) rfl (xs_cons (ev_len (s := got) rfl (by lia)) xs_nil)) rfl)]
  rw [ss_cons (σ' := [.val (.str want), .val (.str got), .own (strsV (w :: (ms ++ [v]))), .val (.int 0), .val (.int got.length), .val (.str w)]) (s_asg (fr := []) (v := .str w) (ev_idxO (l := strsV (w :: (ms ++ [v]))) rfl (y := .int 0) rfl idx_head))]
  have hlast : (tailIf w (w :: (ms ++ [v]))).getLastD [] = v := by
   unfold tailIf
   split
   ·rw [← List.cons_append, List.getLastD_concat]
   ·rw [List.tail_cons, List.getLastD_concat]
  simp only [List.headD_cons, hlast]
  have e5 := s_if0 (F := F) (t := (.cons (.ifS [] (.mf .startswith (.var 1) (.cons (.var 5) .nil)) (.cons (.asg [] 3 (.bf .len (.cons (.var 5) .nil))) (.cons (.delI 2 false) .nil)) (.cons (.ret [] (.const (.bool false))) .nil)) .nil)) (e := .nil)
   (σ := [.val (.str want), .val (.str got), .own (strsV (w :: (ms ++ [v]))), .val (.int 0), .val (.int got.length), .val (.str w)]) (c := .var 5) (G := G) (φ := φ) (v := .str w) rfl (truth_str (by lia))
  by_cases hw0 : w = []
  ·subst hw0
   rw [ss_cons (σ' := [.val (.str want), .val (.str got), .own (strsV ([] :: (ms ++ [v]))), .val (.int 0), .val (.int got.length), .val (.str [])]) (e5.trans rfl)]
   have := match_rest (G := G) (φ := φ) (F := F) (want := want) (got := got) (w := []) (l := [] :: ms) (v := v) (x := .val (.str [])) hg (Nat.zero_le _) (by simp at hcnt ⊢; lia) (by simpa using hlen)
   simpa [tailIf] using this
  ·have hwe : w.isEmpty = false := by cases w with | nil => exact absurd rfl hw0 | cons z1 z2 => rfl
   rw [hwe, Bool.not_false, if_pos rfl] at e5
   have e6 := s_if0 (F := F) (t := (.cons (.asg [] 3 (.bf .len (.cons (.var 5) .nil))) (.cons (.delI 2 false) .nil))) (e := (.cons (.ret [] (.const (.bool false))) .nil))
    (σ := [.val (.str want), .val (.str got), .own (strsV (w :: (ms ++ [v]))), .val (.int 0), .val (.int got.length), .val (.str w)]) (c := .mf .startswith (.var 1) (.cons (.var 5) .nil)) (G := G) (φ := φ) (v := .bool (List.isPrefixOf w got)) rfl rfl
   by_cases hpre : List.isPrefixOf w got = true
   ·rw [hpre, if_pos rfl] at e6
    have hle : w.length ≤ got.length := (List.isPrefixOf_iff_prefix.mp hpre).length_le
    have e7 : exSs G φ F (.cons (.asg [] 3 (.bf .len (.cons (.var 5) .nil))) (.cons (.delI 2 false) .nil)) [.val (.str want), .val (.str got), .own (strsV (w :: (ms ++ [v]))), .val (.int 0), .val (.int got.length), .val (.str w)] =
      some (.nx, [.val (.str want), .val (.str got), .own (strsV (ms ++ [v])), .val (.int w.length), .val (.int got.length), .val (.str w)]) := by
     rw [ss_cons (σ' := [.val (.str want), .val (.str got), .own (strsV (w :: (ms ++ [v]))), .val (.int w.length), .val (.int got.length), .val (.str w)]) (s_asg (fr := []) (ev_len (s := w) rfl (by lia)))]
     rw [ss_cons (s_del (i := 2) (p := .str w) (l := strsV (ms ++ [v])) rfl (by rw [List.length_cons, List.length_map]; simp at hcnt ⊢; lia)), ss_nil]
     rfl
    rw [ss_cons (e5.trans ((ss_cons (e6.trans e7)).trans ss_nil))]
    have := match_rest (G := G) (φ := φ) (F := F) (want := want) (got := got) (w := w) (l := ms) (v := v) (x := .val (.str w)) hg hle (by simp at hcnt ⊢; lia) (fun u hu => hlen u (List.mem_cons_of_mem _ hu))
    simpa [tailIf, hwe, hpre] using this
   ·have hpre : List.isPrefixOf w got = false := Bool.eq_false_iff.mpr hpre
    rw [hpre, if_neg Bool.false_ne_true] at e6
    rw [hwe, hpre]
    exact ⟨_, ss_ret (e5.trans (ss_ret (e6.trans (ss_ret (s_ret (fr := []) rfl)))))⟩
 ·have hs : subIn dots3 want = false := by simpa using hs
  rw [hs, if_neg Bool.false_ne_true]
  rw [hs, if_pos (by decide)] at e1
  exact ⟨_, ss_ret (e1.trans rfl)⟩
end
end Rs.Internal.M
end
section
set_option tactic.hygienic false
namespace Rs.Internal.M
open PySem
section
variable {G : Gl} {φ : Nat → List PV → Option PV} {F : Nat} {σ : Store}
theorem place_nat {n j : Nat} (h : j < n) : place n (j : Int) = some j := by
 unfold place
 rw [if_pos (Int.natCast_nonneg j), if_pos (by lia), Int.toNat_natCast]
theorem small_nat {j : Nat} (h : j ≤ 1000000000) : small (j : Int) = true := small_of (by lia) (by lia)
theorem idx_str {a : List Nat} {j x : Nat} (hx : a[j]? = some x) (h : a.length ≤ 1000000) : idxP (.str a) (.int j) = some (.str [x]) := by
 have hj := (List.getElem?_eq_some_iff.mp hx).1
 simp only [idxS, idxL, small_nat (show j ≤ 1000000000 by lia), if_true, place_nat hj, Option.bind_some, hx, Option.map_some]
theorem idx_lst {a : List PV} {j : Nat} {x : PV} (hx : a[j]? = some x) (h : a.length ≤ 1000000) : idxP (.lst a) (.int j) = some x := by
 have hj := (List.getElem?_eq_some_iff.mp hx).1
 simp only [idxS, idxL, small_nat (show j ≤ 1000000000 by lia), if_true, place_nat hj, Option.bind_some, hx]
theorem s_setI {fr : List Nat} {i : Nat} {k e : X} {v : PV} {l : List PV} {j : Nat} (h : evX G φ e (frz fr σ) = some v) (hi : getS (frz fr σ) i = .own l) (hk : evX G φ k (frz fr σ) = some (.int j)) (hj : j < l.length) (hl : l.length ≤ 1048576) :
  exS G φ F (.setI fr i k e) σ = some (.nx, (frz fr σ).set i (.own (l.set j v))) := by
 have c : (decide ((0 : Int) ≤ j) && decide ((j : Int) < l.length) && fitL l.length) = true := by
  simp only [Bool.and_eq_true, decide_eq_true_eq]
  exact ⟨⟨by lia, by lia⟩, fitL_le hl⟩
 exact obnd h (obnd (show (getS (frz fr σ) i).own? = some l by rw [hi]; rfl) (obnd hk (obnd (show (PV.int (j : Int)).int? = some (j : Int) from rfl) (if_pos c))))
theorem min2_nat (a b : Nat) : bfP .min2 [.int a, .int b] = some (.int ((min a b : Nat) : Int)) := by
 simp only [bfMin2, min2I]
 congr 2
 split <;> lia
noncomputable abbrev intsV (l : List Nat) : List PV := l.map fun (n : Nat) => PV.int n
noncomputable def LS (a b : List Nat) (m pre post : Slot) (row : List PV) (res bi bch dist mn ix sb iD : Slot) : Store := [.val (.str a), .val (.str b), m, pre, post, .own row, res, bi, bch, dist, mn, ix, sb, iD]
noncomputable def bIn (gM cS : Nat) : Ss := (.cons (.asg [] 12 (.bin .Add (.var 9) (.call cS (.cons (.var 8) (.cons (.idx (.var 0) (.var 11)) .nil)))))
   (.cons (.asg [] 9 (.idxO 5 (.var 11)))
   (.cons (.asg [] 13 (.bin .Add (.bf .min2 (.cons (.var 6) (.cons (.var 9) .nil))) (.glob gM)))
   (.cons (.asg [] 6 (.bf .min2 (.cons (.var 13) (.cons (.var 12) .nil))))
   (.cons (.setI [] 5 (.var 11) (.var 6))
   (.cons (.ifS [] (.cmp .Lt (.var 6) (.var 10)) (.cons (.asg [] 10 (.var 6))
    .nil) .nil)
   .nil))))))
variable {c : Nat → Nat → Nat} {gM cS gX : Nat}
theorem in_turn (hM : G.const[gM]? = some (.int 2)) (hs : ∀ x y, φ cS [.str [x], .str [y]] = some (.int (c x y))) {a b : List Nat} {m pre post bi sb iD : Slot} {row : List Nat} {j x u r d mn y : Nat} (hx : a[j]? = some x) (hu : row[j]? = some u)
  (ha : a.length ≤ 100000) (hr : row.length ≤ 100000) :
  ∃ sb' iD', exSs G φ F (bIn gM cS) (LS a b m pre post (intsV row) (.val (.int r)) bi (.val (.str [y])) (.val (.int d)) (.val (.int mn)) (.val (.int j)) sb iD) =
   some (.nx, LS a b m pre post (intsV (row.set j (min (min r u + 2) (d + c y x)))) (.val (.int ((min (min r u + 2) (d + c y x) : Nat) : Int))) bi (.val (.str [y])) (.val (.int u))
    (.val (.int ((if min (min r u + 2) (d + c y x) < mn then min (min r u + 2) (d + c y x) else mn : Nat) : Int))) (.val (.int j)) sb' iD') := by
 have hj := (List.getElem?_eq_some_iff.mp hu).1
 have hu' : (intsV row)[j]? = some (.int u) := by rw [List.getElem?_map, hu]; rfl
 unfold bIn
 refine ⟨.val (.int ((d : Int) + c y x)), .val (.int ((min r u : Nat) + 2)), ?_⟩
 rw [ss_cons (σ' := LS a b m pre post (intsV row) (.val (.int r)) bi (.val (.str [y])) (.val (.int d)) (.val (.int mn)) (.val (.int j)) (.val (.int ((d : Int) + c y x))) iD)
  (s_asg0 (v := .int ((d : Int) + c y x)) (ev_bin (x := .int d) rfl (ev_call (xs_cons (x := .str [y]) rfl (xs_cons (ev_idx (x := .str a) (y := .int j) rfl rfl (idx_str hx (by lia))) xs_nil)) (hs y x)) rfl))]
 rw [ss_cons (σ' := LS a b m pre post (intsV row) (.val (.int r)) bi (.val (.str [y])) (.val (.int u)) (.val (.int mn)) (.val (.int j)) (.val (.int ((d : Int) + c y x))) iD)
  (s_asg0 (v := .int u) (ev_idxO (l := intsV row) rfl (y := .int j) rfl (idx_lst hu' (by rw [List.length_map]; lia))))]
 rw [ss_cons (σ' := LS a b m pre post (intsV row) (.val (.int r)) bi (.val (.str [y])) (.val (.int u)) (.val (.int mn)) (.val (.int j)) (.val (.int ((d : Int) + c y x))) (.val (.int ((min r u : Nat) + 2))))
  (s_asg0 (v := .int ((min r u : Nat) + 2)) (ev_bin (x := .int ((min r u : Nat) : Int)) (ev_bf (xs_cons (x := .int r) rfl (xs_cons (x := .int u) rfl xs_nil)) (min2_nat r u)) (ev_glob hM) rfl))]
 have e1 : bfP .min2 [.int ((min r u : Nat) + 2), .int ((d : Int) + c y x)] = some (.int ((min (min r u + 2) (d + c y x) : Nat) : Int)) := by
  have := min2_nat (min r u + 2) (d + c y x)
  simpa using this
 rw [ss_cons (σ' := LS a b m pre post (intsV row) (.val (.int ((min (min r u + 2) (d + c y x) : Nat) : Int))) bi (.val (.str [y])) (.val (.int u)) (.val (.int mn)) (.val (.int j)) (.val (.int ((d : Int) + c y x))) (.val (.int ((min r u : Nat) + 2))))
  (s_asg0 (ev_bf (xs_cons (x := .int ((min r u : Nat) + 2)) rfl (xs_cons (x := .int ((d : Int) + c y x)) rfl xs_nil)) e1))]
 generalize min (min r u + 2) (d + c y x) = v
 rw [ss_cons (σ' := LS a b m pre post ((intsV row).set j (.int v)) (.val (.int v)) bi (.val (.str [y])) (.val (.int u)) (.val (.int mn)) (.val (.int j)) (.val (.int ((d : Int) + c y x))) (.val (.int ((min r u : Nat) + 2))))
  (s_setI (fr := []) (v := .int v) (l := intsV row) (j := j) rfl rfl rfl (by rw [List.length_map]; exact hj) (by rw [List.length_map]; lia))]
 have e2 : (intsV row).set j (.int v) = intsV (row.set j v) := (List.map_set (f := fun (n : Nat) => PV.int n) (l := row) (i := j) (a := v)).symm
 rw [e2]
 have e3 := s_if0 (F := F) (t := (.cons (.asg [] 10 (.var 6)) .nil)) (e := .nil) (σ := LS a b m pre post (intsV (row.set j v)) (.val (.int v)) bi (.val (.str [y])) (.val (.int u)) (.val (.int mn)) (.val (.int j)) (.val (.int ((d : Int) + c y x))) (.val (.int ((min r u : Nat) + 2))))
  (ev_cmp (G := G) (φ := φ) (op := .Lt) (a := .var 6) (b := .var 10) (x := .int v) (y := .int mn) rfl rfl rfl) rfl
 by_cases hlt : v < mn
 ·rw [if_pos (by simpa using hlt)] at e3
  rw [ss_cons (e3.trans (ss_cons (s_asg0 (v := .int v) rfl))), ss_nil, if_pos hlt]
  rfl
 ·rw [if_neg (by simpa using hlt)] at e3
  rw [ss_cons (e3.trans ss_nil), ss_nil, if_neg hlt]
theorem in_loop (hM : G.const[gM]? = some (.int 2)) (hs : ∀ x y, φ cS [.str [x], .str [y]] = some (.int (c x y))) {b : List Nat} {m pre post bi : Slot} {y : Nat} : ∀ (as rest p done : List Nat) (r d mn : Nat) (ix sb iD : Slot), p.length = done.length → as.length = rest.length → (p ++ as).length ≤ 100000 →
  ∃ ix' sb' iD' dist', forLoop true [11] (fun σ => exSs G φ F (bIn gM cS) σ) (intsV (List.range' p.length as.length)) (LS (p ++ as) b m pre post (intsV (done ++ rest)) (.val (.int r)) bi (.val (.str [y])) (.val (.int d)) (.val (.int mn)) ix sb iD) =
   some (.nx, LS (p ++ as) b m pre post (intsV (done ++ (innerL c y as rest d r mn).1)) (.val (.int (innerL c y as rest d r mn).2.1)) bi (.val (.str [y])) dist' (.val (.int (innerL c y as rest d r mn).2.2)) ix' sb' iD')
 | [], rest, p, done, r, d, mn, ix, sb, iD, hp, ha, hl => by
  have : rest = [] := List.length_eq_zero_iff.mp ha.symm
  subst this
  exact ⟨ix, sb, iD, _, rfl⟩
 | x :: as, u :: rest, p, done, r, d, mn, ix, sb, iD, hp, ha, hl => by
  have hx : (p ++ x :: as)[p.length]? = some x := by simp
  have hu : (done ++ u :: rest)[p.length]? = some u := by rw [hp]; simp
  have hlr : (done ++ u :: rest).length ≤ 100000 := by simp at hl ha ⊢; lia
  obtain ⟨sb', iD', e⟩ := in_turn (G := G) (φ := φ) (F := F) (c := c) hM hs (b := b) (m := m) (pre := pre) (post := post) (bi := bi) (sb := sb) (iD := iD) (r := r) (d := d) (mn := mn) (y := y) hx hu hl hlr
  have hrange : intsV (List.range' p.length (x :: as).length) = PV.int p.length :: intsV (List.range' (p.length + 1) as.length) := by
   rw [List.length_cons, List.range'_succ]; rfl
  rw [hrange]
  have ih := in_loop hM hs (b := b) (m := m) (pre := pre) (post := post) (bi := bi) (y := y) as rest (p ++ [x]) (done ++ [min (min r u + 2) (d + c y x)]) (min (min r u + 2) (d + c y x)) u (if min (min r u + 2) (d + c y x) < mn then min (min r u + 2) (d + c y x) else mn) (.val (.int p.length)) sb' iD' (by simp [hp]) (by simpa using ha) (by simpa using hl)
  refine cps fun PP kk => ?_
  obtain ⟨ix₂, sb₂, iD₂, dist₂, e₂⟩ := ih
  refine kk ?_
  clear kk PP
  have hset : (done ++ u :: rest).set p.length (min (min r u + 2) (d + c y x)) = done ++ [min (min r u + 2) (d + c y x)] ++ rest := by rw [hp]; simp
  rw [hset] at e
  have hp1 : (p ++ [x]).length = p.length + 1 := by simp
  have hpa : p ++ [x] ++ as = p ++ x :: as := by simp
  rw [hp1, hpa] at e₂
  refine ⟨ix₂, sb₂, iD₂, dist₂, ?_⟩
  rw [for_cons (σ₁ := LS (p ++ x :: as) b m pre post (intsV (done ++ u :: rest)) (.val (.int r)) bi (.val (.str [y])) (.val (.int d)) (.val (.int mn)) (.val (.int p.length)) sb iD) rfl e]
  rw [e₂]
  rw [innerL_c, List.append_assoc]; rfl
end
end Rs.Internal.M
end
section
set_option tactic.hygienic false
namespace Rs.Internal.M
open PySem
section
variable {G : Gl} {φ : Nat → List PV → Option PV} {F : Nat} {σ : Store}
theorem rangeL_nat (n : Nat) : rangeL 0 n 1 = intsV (List.range' 0 n) := by
 unfold rangeL rcount
 rw [if_pos rfl, Int.sub_zero, Int.toNat_natCast, ← List.range_eq_range']
 refine List.map_congr_left fun k z1 => ?_
 simp
theorem it_range {a : X} {n : Nat} (h : evX G φ a σ = some (.int n)) (hn : n ≤ 1000000) : evIt G φ (.val (.bf .range1 (.cons a .nil))) σ = some (intsV (List.range' 0 n)) := by
 have hs : small (n : Int) = true := small_nat (by lia)
 have s0 : small 0 = true := by decide
 have s1 : small 1 = true := by decide
 refine it_val (x := .rng 0 n 1) (ev_bf (xs_cons h xs_nil) ?_) ?_ ?_
 ·simp only [bfR1, range1E, hs, if_true]
 ·show (if (small 0 && small (n : Int) && small 1 && decide ((0 : Int) < 1)) = true then some (rangeL 0 n 1) else none) = _
  rw [s0, hs, s1, rangeL_nat]; rfl
 ·simp; lia
variable {c : Nat → Nat → Nat} {gM cS gX : Nat}
theorem innerL_len {y : Nat} : ∀ (as rest : List Nat) (d r mn : Nat), as.length = rest.length → (innerL c y as rest d r mn).1.length = as.length
 | [], rest, d, r, mn, h => rfl
 | x :: as, [], d, r, mn, h => by simp at h
 | x :: as, u :: rest, d, r, mn, h => by
  exact congrArg (· + 1) (innerL_len as rest _ _ _ (by simpa using h))
theorem big_int : (PV.int 9223372036854775807) = .int (big : Int) := by unfold big; rfl
noncomputable def bOut (gM cS : Nat) : Ss := (.cons (.asg [] 8 (.idx (.var 1) (.var 7)))
  (.cons (.asg2 [] 9 6 (.bin .Mult (.var 7) (.glob gM)))
  (.cons (.asg [] 10 (.const (.int 9223372036854775807)))
  (.cons (.forS [] [11] true (.val (.bf .range1 (.cons (.bf .len (.cons (.var 0) .nil)) .nil))) (bIn gM cS))
  (.cons (.ifS [] (.cmp .Gt (.var 10) (.var 2)) (.cons (.ret [] (.bin .Add (.var 2) (.const (.int 1))))
   .nil) .nil)
  .nil)))))
theorem s_asg2 {i j : Nat} {e : X} {v : PV} (h : evX G φ e σ = some v) : exS G φ F (.asg2 [] i j e) σ = some (.nx, setS (setS σ i v) j v) := by
 exact obnd h rfl
theorem out_loop (hM : G.const[gM]? = some (.int 2)) (hs : ∀ x y, φ cS [.str [x], .str [y]] = some (.int (c x y))) {a : List Nat} {m : Int} {pre post : Slot} (ha : a.length ≤ 1000) : ∀ (bs q row : List Nat) (res : Nat) (bi bch dist mn ix sb iD : Slot), row.length = a.length → (q ++ bs).length ≤ 1000 →
  (∃ σ', forLoop true [7] (fun σ => exSs G φ F (bOut gM cS) σ) (intsV (List.range' q.length bs.length)) (LS a (q ++ bs) (.val (.int m)) pre post (intsV row) (.val (.int res)) bi bch dist mn ix sb iD) = some (.rt (.int (rowsL c a m bs q.length row res)), σ')) ∨
  (∃ row' bi' bch' dist' mn' ix' sb' iD', forLoop true [7] (fun σ => exSs G φ F (bOut gM cS) σ) (intsV (List.range' q.length bs.length)) (LS a (q ++ bs) (.val (.int m)) pre post (intsV row) (.val (.int res)) bi bch dist mn ix sb iD) =
   some (.nx, LS a (q ++ bs) (.val (.int m)) pre post row' (.val (.int (rowsL c a m bs q.length row res))) bi' bch' dist' mn' ix' sb' iD')) := by
 intro bs
 induction bs with
 | nil =>
  intro q row res bi bch dist mn ix sb iD hr hl
  exact .inr ⟨_, _, _, _, _, _, _, _, rfl⟩
 | cons y bs ih__ =>
  intro q row res bi bch dist mn ix sb iD hr hl
  have hy : (q ++ y :: bs)[q.length]? = some y := by simp
  have hrange : intsV (List.range' q.length (y :: bs).length) = PV.int q.length :: intsV (List.range' (q.length + 1) bs.length) := by
   rw [List.length_cons, List.range'_succ]; rfl
  have hql : q.length ≤ 1000 := by simp at hl; lia
  have hmul : binP .Mult (.int q.length) (.int 2) = some (.int ((2 * q.length : Nat) : Int)) := by
   have h1 : small (q.length : Int) = true := small_nat (by lia)
   have h2 : small 2 = true := by decide
   have h3 : (q.length : Int) * 2 = ((2 * q.length : Nat) : Int) := by lia
   simp only [bAI, bAS, bAL, bSub, bMI, bMS, bFD, bMod, h1, h2, Bool.and_self, if_true, h3]
  refine cps fun PP kk => ?_
  obtain ⟨ix', sb', iD', dist', e4⟩ := in_loop (G := G) (φ := φ) (F := F) (c := c) hM hs (b := q ++ y :: bs) (m := .val (.int m)) (pre := pre) (post := post) (bi := .val (.int q.length)) (y := y) a row [] [] (2 * q.length) (2 * q.length) big ix sb iD rfl hr.symm (by simp; lia)
  refine kk ?_
  clear kk PP
  have hbody : exSs G φ F (bOut gM cS) (LS a (q ++ y :: bs) (.val (.int m)) pre post (intsV row) (.val (.int res)) (.val (.int q.length)) bch dist mn ix sb iD) =
    if ((innerL c y a row (2 * q.length) (2 * q.length) big).2.2 : Int) > m then
     some (.rt (.int (m + 1)), LS a (q ++ y :: bs) (.val (.int m)) pre post (intsV (innerL c y a row (2 * q.length) (2 * q.length) big).1) (.val (.int (innerL c y a row (2 * q.length) (2 * q.length) big).2.1)) (.val (.int q.length)) (.val (.str [y])) dist' (.val (.int (innerL c y a row (2 * q.length) (2 * q.length) big).2.2)) ix' sb' iD')
    else some (.nx, LS a (q ++ y :: bs) (.val (.int m)) pre post (intsV (innerL c y a row (2 * q.length) (2 * q.length) big).1) (.val (.int (innerL c y a row (2 * q.length) (2 * q.length) big).2.1)) (.val (.int q.length)) (.val (.str [y])) dist' (.val (.int (innerL c y a row (2 * q.length) (2 * q.length) big).2.2)) ix' sb' iD') := by
   unfold bOut
   rw [ss_cons (σ' := LS a (q ++ y :: bs) (.val (.int m)) pre post (intsV row) (.val (.int res)) (.val (.int q.length)) (.val (.str [y])) dist mn ix sb iD) (s_asg0 (v := .str [y]) (ev_idx (x := .str (q ++ y :: bs)) (y := .int q.length) rfl rfl (idx_str hy (by lia))))]
   rw [ss_cons (σ' := LS a (q ++ y :: bs) (.val (.int m)) pre post (intsV row) (.val (.int (2 * q.length : Nat))) (.val (.int q.length)) (.val (.str [y])) (.val (.int (2 * q.length : Nat))) mn ix sb iD) (s_asg2 (ev_bin (x := .int q.length) rfl (ev_glob hM) hmul))]
   rw [ss_cons (σ' := LS a (q ++ y :: bs) (.val (.int m)) pre post (intsV row) (.val (.int (2 * q.length : Nat))) (.val (.int q.length)) (.val (.str [y])) (.val (.int (2 * q.length : Nat))) (.val (.int big)) ix sb iD) (s_asg0 (v := .int big) (by rw [← big_int]; rfl))]
   have e5 : exS G φ F (.forS [] [11] true (.val (.bf .range1 (.cons (.bf .len (.cons (.var 0) .nil)) .nil))) (bIn gM cS)) (LS a (q ++ y :: bs) (.val (.int m)) pre post (intsV row) (.val (.int (2 * q.length : Nat))) (.val (.int q.length)) (.val (.str [y])) (.val (.int (2 * q.length : Nat))) (.val (.int big)) ix sb iD) = _ :=
    s_for (fr := []) (vs := intsV (List.range' 0 a.length)) (it_range (n := a.length) (ev_len (s := a) rfl (by lia)) (by lia))
   have e6 := e5.trans e4
   refine (ss_cons e6).trans ?_
   have e7 := s_if0 (F := F) (t := (.cons (.ret [] (.bin .Add (.var 2) (.const (.int 1)))) .nil)) (e := .nil)
    (σ := LS ([] ++ a) (q ++ y :: bs) (.val (.int m)) pre post (intsV ([] ++ (innerL c y a row (2 * q.length) (2 * q.length) big).1)) (.val (.int (innerL c y a row (2 * q.length) (2 * q.length) big).2.1)) (.val (.int q.length)) (.val (.str [y])) dist' (.val (.int (innerL c y a row (2 * q.length) (2 * q.length) big).2.2)) ix' sb' iD')
    (ev_cmp (G := G) (φ := φ) (op := .Gt) (a := .var 10) (b := .var 2) (x := .int (innerL c y a row (2 * q.length) (2 * q.length) big).2.2) (y := .int m) rfl rfl rfl) rfl
   by_cases hgt : ((innerL c y a row (2 * q.length) (2 * q.length) big).2.2 : Int) > m
   ·rw [if_pos (by simpa using hgt)] at e7
    rw [if_pos hgt]
    exact ss_ret (e7.trans (ss_ret (s_ret (fr := []) (v := .int (m + 1)) rfl)))
   ·rw [if_neg (by simpa using hgt)] at e7
    rw [if_neg hgt, ss_cons (e7.trans ss_nil)]
    rfl
  rw [hrange]
  by_cases hgt : ((innerL c y a row (2 * q.length) (2 * q.length) big).2.2 : Int) > m
  ·rw [if_pos hgt] at hbody
   have : rowsL c a m (y :: bs) q.length row res = m + 1 := if_pos hgt
   rw [this]
   exact .inl ⟨_, for_ret (σ₁ := LS a (q ++ y :: bs) (.val (.int m)) pre post (intsV row) (.val (.int res)) (.val (.int q.length)) bch dist mn ix sb iD) rfl hbody⟩
  ·rw [if_neg hgt] at hbody
   have : rowsL c a m (y :: bs) q.length row res = rowsL c a m bs (q.length + 1) (innerL c y a row (2 * q.length) (2 * q.length) big).1 (innerL c y a row (2 * q.length) (2 * q.length) big).2.1 := if_neg hgt
   rw [this, for_cons (σ₁ := LS a (q ++ y :: bs) (.val (.int m)) pre post (intsV row) (.val (.int res)) (.val (.int q.length)) bch dist mn ix sb iD) rfl hbody]
   have ih := ih__ (q ++ [y]) (innerL c y a row (2 * q.length) (2 * q.length) big).1 (innerL c y a row (2 * q.length) (2 * q.length) big).2.1 (.val (.int q.length)) (.val (.str [y])) dist' (.val (.int (innerL c y a row (2 * q.length) (2 * q.length) big).2.2)) ix' sb' iD' (innerL_len a row _ _ _ hr.symm) (by simpa using hl)
   have hq1 : (q ++ [y]).length = q.length + 1 := by simp
   have hqa : q ++ [y] ++ bs = q ++ y :: bs := by simp
   rw [hq1, hqa] at ih
   exact ih
end
end Rs.Internal.M
end
section
set_option tactic.hygienic false
set_option backward.match.sparseCases false
namespace Rs.Internal.M
open PySem
section
variable {G : Gl} {φ : Nat → List PV → Option PV} {F : Nat} {σ : Store}
theorem slc_drop {s : List Nat} {k : Nat} (hk : k ≤ s.length) (h : s.length ≤ 100000) : slcP (.str s) (.int k) .none = some (.str (s.drop k)) := by
  have hs : small (k : Int) = true := small_nat (by lia)
  have hf := fitL_le (show s.length ≤ 1048576 by lia)
  rw [slcP_str (end_int hs) rfl hf]
  show some (PV.str ((s.take s.length).drop (if (k : Int) < 0 then ((k : Int) + s.length).toNat else min (k : Int).toNat s.length))) = _
  rw [if_neg (by lia), Int.toNat_natCast, Nat.min_eq_left hk, List.take_length]
theorem slc_take_neg {s : List Nat} {k : Nat} (hk : k ≤ s.length) (h : s.length ≤ 100000) (h0 : k ≠ 0) : slcP (.str s) .none (.int (-(k : Int))) = some (.str (s.take (s.length - k))) := by
  have hs : small (-(k : Int)) = true := small_of (by lia) (by lia)
  have hf := fitL_le (show s.length ≤ 1048576 by lia)
  rw [slcP_str rfl (end_int hs) hf]
  show some (PV.str ((s.take (if -(k : Int) < 0 then (-(k : Int) + s.length).toNat else min (-(k : Int)).toNat s.length)).drop 0)) = _
  rw [if_pos (by lia)]
  have : (-(k : Int) + s.length).toNat = s.length - k := by lia
  rw [this, List.drop_zero]
theorem slc_all {s : List Nat} (h : s.length ≤ 100000) : slcP (.str s) .none .none = some (.str s) := by
  have hf := fitL_le (show s.length ≤ 1048576 by lia)
  rw [slcP_str rfl rfl hf]
  show some (PV.str ((s.take s.length).drop 0)) = _
  rw [List.take_length, List.drop_zero]
theorem slc_take {s : List Nat} {k : Nat} (hk : k ≤ s.length) (h : s.length ≤ 100000) : slcP (.str s) .none (.int k) = some (.str (s.take k)) := by
  have hs : small (k : Int) = true := small_nat (by lia)
  have hf := fitL_le (show s.length ≤ 1048576 by lia)
  rw [slcP_str rfl (end_int hs) hf]
  show some (PV.str ((s.take (if (k : Int) < 0 then ((k : Int) + s.length).toNat else min (k : Int).toNat s.length)).drop 0)) = _
  rw [if_neg (by lia), Int.toNat_natCast, Nat.min_eq_left hk, List.drop_zero]
noncomputable def cPre : X := (.andX (.slc (.var 0) (.var 3) (.const .none)) (.andX (.slc (.var 1) (.var 3) (.const .none)) (.cmp .Eq (.idx (.var 0) (.var 3)) (.idx (.var 1) (.var 3)))))
noncomputable def bPre : Ss := (.cons (.aug [] 3 .Add (.const (.int 1)))
    .nil)
noncomputable def cPost : X := (.andX (.slc (.var 0) (.const .none) (.orX (.var 4) (.const .none))) (.andX (.slc (.var 1) (.const .none) (.orX (.var 4) (.const .none))) (.cmp .Eq (.idx (.var 0) (.bin .Sub (.var 4) (.const (.int 1)))) (.idx (.var 1) (.bin .Sub (.var 4) (.const (.int 1)))))))
noncomputable def bPost : Ss := (.cons (.aug [] 4 .Sub (.const (.int 1)))
    .nil)
noncomputable def L0 (a b : List Nat) (m pre post : Slot) (t : Store) : Store := .val (.str a) :: .val (.str b) :: m :: pre :: post :: t
noncomputable def headsEq : List Nat → List Nat → Bool
  | x :: z1, y :: z2 => x == y
  | z1, z2 => false
theorem pre_cond {a b : List Nat} {m post : Slot} {t : Store} {k : Nat} (ha : a.length ≤ 100000) (hb : b.length ≤ 100000) (hk : k ≤ a.length) (hk' : k ≤ b.length) :
    (evX G φ cPre (L0 a b m (.val (.int k)) post t)).bind PV.truth = some (headsEq (a.drop k) (b.drop k)) := by
  unfold cPre
  have e1 : evX G φ (.slc (.var 0) (.var 3) (.const .none)) (L0 a b m (.val (.int k)) post t) = some (.str (a.drop k)) := ev_slc (x := .str a) (y := .int k) (z := .none) rfl rfl rfl (slc_drop hk ha)
  have e2 : evX G φ (.slc (.var 1) (.var 3) (.const .none)) (L0 a b m (.val (.int k)) post t) = some (.str (b.drop k)) := ev_slc (x := .str b) (y := .int k) (z := .none) rfl rfl rfl (slc_drop hk' hb)
  have t1 := truth_str (s := a.drop k) (by simp; lia)
  have t2 := truth_str (s := b.drop k) (by simp; lia)
  cases h1 : a.drop k with
  | nil =>
    rw [h1] at e1 t1
    rw [ev_and_f e1 t1, Option.bind_some, t1]; rfl
  | cons x a' =>
    rw [h1] at e1 t1
    rw [ev_and_t e1 t1]
    cases h2 : b.drop k with
    | nil =>
      rw [h2] at e2 t2
      rw [ev_and_f e2 t2, Option.bind_some, t2]; rfl
    | cons y b' =>
      rw [h2] at e2 t2
      rw [ev_and_t e2 t2]
      have hx : a[k]? = some x := by have : (a.drop k)[0]? = some x := by rw [h1]; rfl
                                     simpa using this
      have hy : b[k]? = some y := by have : (b.drop k)[0]? = some y := by rw [h2]; rfl
                                     simpa using this
      rw [ev_cmp (op := .Eq) (ev_idx (x := .str a) (y := .int k) rfl rfl (idx_str hx (by lia))) (ev_idx (x := .str b) (y := .int k) rfl rfl (idx_str hy (by lia))) (t := [x] == [y]) rfl]
      refine (show some ([x] == [y]) = some (headsEq (x :: a') (y :: b')) from congrArg some ?_)
      show ([x] == [y]) = (x == y)
      by_cases h : x = y <;> simp [h]
theorem pre_loop {a b : List Nat} {m post : Slot} {t : Store} (ha : a.length ≤ 100000) (hb : b.length ≤ 100000) : ∀ (n k : Nat), k ≤ a.length → k ≤ b.length → cpl (a.drop k) (b.drop k) < n →
    whileLoop (fun σ => (evX G φ cPre σ).bind PV.truth) (fun σ => exSs G φ F bPre σ) n (L0 a b m (.val (.int k)) post t) = some (.nx, L0 a b m (.val (.int (k + cpl (a.drop k) (b.drop k) : Nat))) post t) := by
  intro n
  induction n with
  | zero =>
    intro k _ _ h
    exact absurd h (Nat.not_lt_zero _)
  | succ n ih__ =>
    intro k hk hk' h
    have hc := pre_cond (G := G) (φ := φ) (m := m) (post := post) (t := t) ha hb hk hk'
    cases h1 : a.drop k with
    | nil =>
      rw [h1] at hc
      rw [wh_false (cd := fun σ => (evX G φ cPre σ).bind PV.truth) (f := fun σ => exSs G φ F bPre σ) (σ := L0 a b m (.val (.int k)) post t) (by rw [hc]; rfl)]
      rfl
    | cons x a' =>
      cases h2 : b.drop k with
      | nil =>
        rw [h1, h2] at hc
        rw [wh_false (cd := fun σ => (evX G φ cPre σ).bind PV.truth) (f := fun σ => exSs G φ F bPre σ) (σ := L0 a b m (.val (.int k)) post t) (by rw [hc]; rfl)]
        rfl
      | cons y b' =>
        rw [h1, h2] at hc h
        by_cases hxy : x = y
        · subst hxy
          have hc' : (evX G φ cPre (L0 a b m (.val (.int k)) post t)).bind PV.truth = some true := by rw [hc]; exact congrArg some (beq_self_eq_true x)
          have hf : exSs G φ F bPre (L0 a b m (.val (.int k)) post t) = some (.nx, L0 a b m (.val (.int ((k + 1 : Nat) : Int))) post t) :=
            (ss_cons (σ' := L0 a b m (.val (.int ((k + 1 : Nat) : Int))) post t) (s_aug (fr := []) (p := .int k) (v := .int 1) (r := .int ((k + 1 : Nat) : Int)) rfl rfl rfl)).trans ss_nil
          refine (wh_true (cd := fun σ => (evX G φ cPre σ).bind PV.truth) (f := fun σ => exSs G φ F bPre σ) (σ := L0 a b m (.val (.int k)) post t) hc' hf).trans ?_
          have l1 : k < a.length := by
            rcases Nat.lt_or_ge k a.length with q | q
            · exact q
            · rw [List.drop_of_length_le q] at h1; cases h1
          have l2 : k < b.length := by
            rcases Nat.lt_or_ge k b.length with q | q
            · exact q
            · rw [List.drop_of_length_le q] at h2; cases h2
          have d1 : a.drop (k + 1) = a' := by
            have : a.drop (k + 1) = (a.drop k).drop 1 := by rw [List.drop_drop]
            rw [this, h1]; rfl
          have d2 : b.drop (k + 1) = b' := by
            have : b.drop (k + 1) = (b.drop k).drop 1 := by rw [List.drop_drop]
            rw [this, h2]; rfl
          have ecpl : cpl (x :: a') (x :: b') = cpl a' b' + 1 := by rw [cpl_c, if_pos rfl]
          rw [ecpl] at h ⊢
          have ih := ih__ (k + 1) l1 l2 (by rw [d1, d2]; lia)
          rw [d1, d2] at ih
          rw [ih]
          have : k + 1 + cpl a' b' = k + (cpl a' b' + 1) := by lia
          rw [this]
        · have hc' : (evX G φ cPre (L0 a b m (.val (.int k)) post t)).bind PV.truth = some false := by rw [hc]; exact congrArg some (beq_eq_false_iff_ne.mpr hxy)
          refine (wh_false (cd := fun σ => (evX G φ cPre σ).bind PV.truth) (f := fun σ => exSs G φ F bPre σ) (σ := L0 a b m (.val (.int k)) post t) hc').trans ?_
          rw [cpl_c, if_neg hxy]; rfl
theorem ev_upto {a : X} {i k : Nat} {s : List Nat} (hi : getS σ i = .val (.int (-(k : Int)))) (ha : evX G φ a σ = some (.str s)) (hk : k ≤ s.length) (h : s.length ≤ 100000) : evX G φ (.slc a (.const .none) (.orX (.var i) (.const .none))) σ = some (.str (s.take (s.length - k))) := by
  have hv : evX G φ (.var i) σ = some (.int (-(k : Int))) := by show (getS σ i).val? = _; rw [hi]; rfl
  by_cases h0 : k = 0
  · subst h0
    have : evX G φ (.orX (.var i) (.const .none)) σ = some .none := ev_or_f hv rfl
    rw [ev_slc ha (y := .none) rfl this (slc_all h)]
    simp
  · have ht : (PV.int (-(k : Int))).truth = some true := by simp [PV.truth]; lia
    have : evX G φ (.orX (.var i) (.const .none)) σ = some (.int (-(k : Int))) := ev_or_t hv ht
    exact ev_slc ha (y := .none) rfl this (slc_take_neg hk h h0)
theorem idx_back {a : List Nat} {k x : Nat} (hx : a.reverse[k]? = some x) (h : a.length ≤ 100000) : idxP (.str a) (.int (-(k : Int) - 1)) = some (.str [x]) := by
  have hk : k < a.length := by have := (List.getElem?_eq_some_iff.mp hx).1; simpa using this
  have hs : small (-(k : Int) - 1) = true := small_of (by lia) (by lia)
  have hp : place a.length (-(k : Int) - 1) = some (a.length - 1 - k) := by
    unfold place
    rw [if_neg (by lia), if_pos (by lia)]
    congr 1; lia
  have hx' : a[a.length - 1 - k]? = some x := by rw [List.getElem?_reverse hk] at hx; exact hx
  simp only [idxS, idxL, hs, if_true, hp, Option.bind_some, hx', Option.map_some]
theorem post_cond {a b : List Nat} {m pre : Slot} {t : Store} {k : Nat} (ha : a.length ≤ 100000) (hb : b.length ≤ 100000) (hk : k ≤ a.length) (hk' : k ≤ b.length) :
    (evX G φ cPost (L0 a b m pre (.val (.int (-(k : Int)))) t)).bind PV.truth = some (headsEq (a.reverse.drop k) (b.reverse.drop k)) := by
  unfold cPost
  have e1 : evX G φ (.slc (.var 0) (.const .none) (.orX (.var 4) (.const .none))) (L0 a b m pre (.val (.int (-(k : Int)))) t) = some (.str (a.take (a.length - k))) := ev_upto (i := 4) rfl rfl hk ha
  have e2 : evX G φ (.slc (.var 1) (.const .none) (.orX (.var 4) (.const .none))) (L0 a b m pre (.val (.int (-(k : Int)))) t) = some (.str (b.take (b.length - k))) := ev_upto (i := 4) rfl rfl hk' hb
  have t1 := truth_str (s := a.take (a.length - k)) (by simp; lia)
  have t2 := truth_str (s := b.take (b.length - k)) (by simp; lia)
  have r1 := take_rev a k
  have r2 := take_rev b k
  cases h1 : a.reverse.drop k with
  | nil =>
    rw [h1] at r1
    have r1 := List.reverse_eq_nil_iff.mp r1
    rw [r1] at e1 t1
    rw [ev_and_f e1 t1, Option.bind_some, t1]; rfl
  | cons x a' =>
    have n1 : (a.take (a.length - k)).isEmpty = false := by
      cases h : a.take (a.length - k) with
      | nil => rw [h, h1] at r1; cases r1
      | cons z1 z2 => rfl
    rw [n1] at t1
    rw [ev_and_t e1 t1]
    cases h2 : b.reverse.drop k with
    | nil =>
      rw [h2] at r2
      have r2 := List.reverse_eq_nil_iff.mp r2
      rw [r2] at e2 t2
      rw [ev_and_f e2 t2, Option.bind_some, t2]; rfl
    | cons y b' =>
      have n2 : (b.take (b.length - k)).isEmpty = false := by
        cases h : b.take (b.length - k) with
        | nil => rw [h, h2] at r2; cases r2
        | cons z1 z2 => rfl
      rw [n2] at t2
      rw [ev_and_t e2 t2]
      have hx : a.reverse[k]? = some x := by have : (a.reverse.drop k)[0]? = some x := by rw [h1]; rfl
                                             simpa using this
      have hy : b.reverse[k]? = some y := by have : (b.reverse.drop k)[0]? = some y := by rw [h2]; rfl
                                             simpa using this
      have e3 : evX G φ (.bin .Sub (.var 4) (.const (.int 1))) (L0 a b m pre (.val (.int (-(k : Int)))) t) = some (.int (-(k : Int) - 1)) := rfl
      rw [ev_cmp (op := .Eq) (ev_idx (x := .str a) rfl e3 (idx_back hx ha)) (ev_idx (x := .str b) rfl e3 (idx_back hy hb)) (t := [x] == [y]) rfl]
      refine (show some ([x] == [y]) = some (headsEq (x :: a') (y :: b')) from congrArg some ?_)
      show ([x] == [y]) = (x == y)
      by_cases h : x = y <;> simp [h]
theorem post_loop {a b : List Nat} {m pre : Slot} {t : Store} (ha : a.length ≤ 100000) (hb : b.length ≤ 100000) : ∀ (n k : Nat), k ≤ a.length → k ≤ b.length → cpl (a.reverse.drop k) (b.reverse.drop k) < n →
    whileLoop (fun σ => (evX G φ cPost σ).bind PV.truth) (fun σ => exSs G φ F bPost σ) n (L0 a b m pre (.val (.int (-(k : Int)))) t) = some (.nx, L0 a b m pre (.val (.int (-((k + cpl (a.reverse.drop k) (b.reverse.drop k) : Nat) : Int)))) t) := by
  intro n
  induction n with
  | zero =>
    intro k _ _ h
    exact absurd h (Nat.not_lt_zero _)
  | succ n ih__ =>
    intro k hk hk' h
    have hc := post_cond (G := G) (φ := φ) (m := m) (pre := pre) (t := t) ha hb hk hk'
    cases h1 : a.reverse.drop k with
    | nil =>
      rw [h1] at hc
      rw [wh_false (cd := fun σ => (evX G φ cPost σ).bind PV.truth) (f := fun σ => exSs G φ F bPost σ) (σ := L0 a b m pre (.val (.int (-(k : Int)))) t) (by rw [hc]; rfl)]
      rfl
    | cons x a' =>
      cases h2 : b.reverse.drop k with
      | nil =>
        rw [h1, h2] at hc
        rw [wh_false (cd := fun σ => (evX G φ cPost σ).bind PV.truth) (f := fun σ => exSs G φ F bPost σ) (σ := L0 a b m pre (.val (.int (-(k : Int)))) t) (by rw [hc]; rfl)]
        rfl
      | cons y b' =>
        rw [h1, h2] at hc h
        by_cases hxy : x = y
        · subst hxy
          have hc' : (evX G φ cPost (L0 a b m pre (.val (.int (-(k : Int)))) t)).bind PV.truth = some true := by rw [hc]; exact congrArg some (beq_self_eq_true x)
          have hr : augP .Sub (.int (-(k : Int))) (.int 1) = some (.int (-((k + 1 : Nat) : Int))) := by
            have : -(k : Int) - 1 = -((k + 1 : Nat) : Int) := by lia
            simp only [aSub, aS, this]
          have hf : exSs G φ F bPost (L0 a b m pre (.val (.int (-(k : Int)))) t) = some (.nx, L0 a b m pre (.val (.int (-((k + 1 : Nat) : Int)))) t) :=
            (ss_cons (σ' := L0 a b m pre (.val (.int (-((k + 1 : Nat) : Int)))) t) (s_aug (fr := []) (p := .int (-(k : Int))) (v := .int 1) rfl rfl hr)).trans ss_nil
          refine (wh_true (cd := fun σ => (evX G φ cPost σ).bind PV.truth) (f := fun σ => exSs G φ F bPost σ) (σ := L0 a b m pre (.val (.int (-(k : Int)))) t) hc' hf).trans ?_
          have l1 : k < a.length := by
            rcases Nat.lt_or_ge k a.length with q | q
            · exact q
            · rw [List.drop_of_length_le (by simpa using q)] at h1; cases h1
          have l2 : k < b.length := by
            rcases Nat.lt_or_ge k b.length with q | q
            · exact q
            · rw [List.drop_of_length_le (by simpa using q)] at h2; cases h2
          have d1 : a.reverse.drop (k + 1) = a' := by
            have : a.reverse.drop (k + 1) = (a.reverse.drop k).drop 1 := by rw [List.drop_drop]
            rw [this, h1]; rfl
          have d2 : b.reverse.drop (k + 1) = b' := by
            have : b.reverse.drop (k + 1) = (b.reverse.drop k).drop 1 := by rw [List.drop_drop]
            rw [this, h2]; rfl
          have ecpl : cpl (x :: a') (x :: b') = cpl a' b' + 1 := by rw [cpl_c, if_pos rfl]
          rw [ecpl] at h ⊢
          have ih := ih__ (k + 1) l1 l2 (by rw [d1, d2]; lia)
          rw [d1, d2] at ih
          rw [ih]
          have : k + 1 + cpl a' b' = k + (cpl a' b' + 1) := by lia
          rw [this]
        · have hc' : (evX G φ cPost (L0 a b m pre (.val (.int (-(k : Int)))) t)).bind PV.truth = some false := by rw [hc]; exact congrArg some (beq_eq_false_iff_ne.mpr hxy)
          refine (wh_false (cd := fun σ => (evX G φ cPost σ).bind PV.truth) (f := fun σ => exSs G φ F bPost σ) (σ := L0 a b m pre (.val (.int (-(k : Int)))) t) hc').trans ?_
          rw [cpl_c, if_neg hxy]; rfl
end
end Rs.Internal.M
end
section
set_option tactic.hygienic false
namespace Rs.Internal.M
open PySem
noncomputable def tRows (gM cS : Nat) : Ss :=
 (.cons (.asgO [] 5 (.bf .listOf (.cons (.bf .range3 (.cons (.glob gM) (.cons (.bin .Mult (.glob gM) (.bin .Add (.bf .len (.cons (.var 0) .nil)) (.const (.int 1)))) (.cons (.glob gM) .nil)))) .nil)))
 (.cons (.asg [] 6 (.const (.int 0)))
 (.cons (.forS [] [7] true (.val (.bf .range1 (.cons (.bf .len (.cons (.var 1) .nil)) .nil))) (bOut gM cS))
 (.cons (.ret [] (.var 6))
 .nil))))
noncomputable def tTail (gM cS : Nat) : Ss :=
 (.cons (.ifS [] (.cmp .Gt (.bin .Mult (.bin .Sub (.bf .len (.cons (.var 1) .nil)) (.bf .len (.cons (.var 0) .nil))) (.glob gM)) (.var 2)) (.cons (.ret [] (.bin .Add (.var 2) (.const (.int 1))))
  .nil) .nil)
 (tRows gM cS))
noncomputable def tMid (gX gM cS : Nat) : Ss :=
 (.cons (.ifS [] (.orX (.notX (.var 0)) (.notX (.var 1))) (.cons (.ret [] (.bin .Mult (.glob gM) (.bin .Add (.bf .len (.cons (.var 0) .nil)) (.bf .len (.cons (.var 1) .nil)))))
  .nil) .nil)
 (.cons (.ifS [] (.orX (.cmp .Gt (.bf .len (.cons (.var 0) .nil)) (.glob gX)) (.cmp .Gt (.bf .len (.cons (.var 1) .nil)) (.glob gX))) (.cons (.ret [] (.bin .Add (.var 2) (.const (.int 1))))
  .nil) .nil)
 (.cons (.ifS [] (.cmp .Lt (.bf .len (.cons (.var 1) .nil)) (.bf .len (.cons (.var 0) .nil))) (.cons (.asgP [] [(0, false), (1, false)] (.cons (.var 1) (.cons (.var 0) .nil)))
  .nil) .nil)
 (tTail gM cS))))
noncomputable def fLev (gX gM cS : Nat) : Fn := { np := 3, ns := 14, body :=
 (.cons (.ifS [] (.cmp .Eq (.var 0) (.var 1)) (.cons (.ret [] (.const (.int 0)))
  .nil) .nil)
 (.cons (.asg [] 3 (.const (.int 0)))
 (.cons (.whl cPre bPre)
 (.cons (.asg [] 0 (.slc (.var 0) (.var 3) (.const .none)))
 (.cons (.asg [] 1 (.slc (.var 1) (.var 3) (.const .none)))
 (.cons (.asg [] 4 (.const (.int 0)))
 (.cons (.whl cPost bPost)
 (.cons (.asg [] 0 (.slc (.var 0) (.const .none) (.orX (.var 4) (.const .none))))
 (.cons (.asg [] 1 (.slc (.var 1) (.const .none) (.orX (.var 4) (.const .none))))
 (tMid gX gM cS)))))))))) }
section
variable {G : Gl} {φ : Nat → List PV → Option PV} {F : Nat} {σ : Store} {c : Nat → Nat → Nat} {gM cS gX : Nat}
theorem mul2 {n : Nat} (h : n ≤ 100000) : binP .Mult (.int 2) (.int n) = some (.int ((2 * n : Nat) : Int)) := by
 have h1 : small (n : Int) = true := small_nat (by lia)
 have h2 : small 2 = true := by decide
 have h3 : (2 : Int) * (n : Int) = ((2 * n : Nat) : Int) := by lia
 simp only [bAI, bAS, bAL, bSub, bMI, bMS, bFD, bMod, h1, h2, Bool.and_self, if_true, h3]
theorem rangeL_two (n : Nat) (h : 1 ≤ n) : rangeL 2 ((2 * (n + 1) : Nat) : Int) 2 = intsV (row0 n) ∧ rcount 2 ((2 * (n + 1) : Nat) : Int) 2 = n := by
 have hc : rcount 2 ((2 * (n + 1) : Nat) : Int) 2 = n := by
  unfold rcount
  rw [if_neg (by decide), if_pos (by lia)]
  lia
 refine ⟨?_, hc⟩
 unfold rangeL row0
 rw [hc, intsV, List.map_map]
 refine List.map_congr_left fun k z1 => ?_
 simp only [Function.comp]
 congr 1
 lia
theorem rows_run (hM : G.const[gM]? = some (.int 2)) (hs : ∀ x y, φ cS [.str [x], .str [y]] = some (.int (c x y))) {a b : List Nat} {m : Int} {pre post : Slot} {t : Store} (ha : a.length ≤ 1000) (hb : b.length ≤ 1000) (ha0 : a ≠ []) (ht : t.length = 9) :
  ∃ σ, exSs G φ F (tRows gM cS) (L0 a b (.val (.int m)) pre post t) = some (.rt (.int (rowsL c a m b 0 (row0 a.length) 0)), σ) := by
 match t, ht with
 | [s5, s6, s7, s8, s9, s10, s11, s12, s13], z1 =>
 unfold tRows
 have hn : 1 ≤ a.length := by cases a with | nil => exact absurd rfl ha0 | cons z1 z2 => simp
 obtain ⟨r1, r2⟩ := rangeL_two a.length hn
 have e1 : evX G φ (.bf .range3 (.cons (.glob gM) (.cons (.bin .Mult (.glob gM) (.bin .Add (.bf .len (.cons (.var 0) .nil)) (.const (.int 1)))) (.cons (.glob gM) .nil)))) (L0 a b (.val (.int m)) pre post [s5, s6, s7, s8, s9, s10, s11, s12, s13]) =
   some (.rng 2 ((2 * (a.length + 1) : Nat) : Int) 2) := by
  have h1 : evX G φ (.bin .Add (.bf .len (.cons (.var 0) .nil)) (.const (.int 1))) (L0 a b (.val (.int m)) pre post [s5, s6, s7, s8, s9, s10, s11, s12, s13]) = some (.int ((a.length + 1 : Nat) : Int)) :=
   ev_bin (ev_len (s := a) rfl (by lia)) (y := .int 1) rfl rfl
  refine ev_bf (xs_cons (ev_glob hM) (xs_cons (ev_bin (ev_glob hM) h1 (mul2 (by lia))) (xs_cons (ev_glob hM) xs_nil))) ?_
  have s2 : small 2 = true := by decide
  have s3 : small ((2 * (a.length + 1) : Nat) : Int) = true := small_nat (by lia)
  have d2 : decide ((0 : Int) < 2) = true := by decide
  simp only [bfR3, range3E, s2, s3, d2, Bool.and_self, if_true]
 have e2 : evX G φ (.bf .listOf (.cons (.bf .range3 (.cons (.glob gM) (.cons (.bin .Mult (.glob gM) (.bin .Add (.bf .len (.cons (.var 0) .nil)) (.const (.int 1)))) (.cons (.glob gM) .nil)))) .nil)) (L0 a b (.val (.int m)) pre post [s5, s6, s7, s8, s9, s10, s11, s12, s13]) =
   some (.lst (intsV (row0 a.length))) := by
  refine ev_bf (xs_cons e1 xs_nil) ?_
  have s2 : small 2 = true := by decide
  have s3 : small ((2 * (a.length + 1) : Nat) : Int) = true := small_nat (by lia)
  have d2 : decide ((0 : Int) < 2) = true := by decide
  have f : fitL (rcount 2 ((2 * (a.length + 1) : Nat) : Int) 2) = true := by rw [r2]; exact fitL_le (by lia)
  simp only [bfListOf, listOfE, s2, s3, d2, f, Bool.and_self, if_true, r1]
 rw [ss_cons (σ' := LS a b (.val (.int m)) pre post (intsV (row0 a.length)) s6 s7 s8 s9 s10 s11 s12 s13) (s_asgO (fr := []) e2)]
 rw [ss_cons (σ' := LS a b (.val (.int m)) pre post (intsV (row0 a.length)) (.val (.int (0 : Nat))) s7 s8 s9 s10 s11 s12 s13) (s_asg0 (v := .int (0 : Nat)) rfl)]
 have e3 : exS G φ F (.forS [] [7] true (.val (.bf .range1 (.cons (.bf .len (.cons (.var 1) .nil)) .nil))) (bOut gM cS)) (LS a b (.val (.int m)) pre post (intsV (row0 a.length)) (.val (.int (0 : Nat))) s7 s8 s9 s10 s11 s12 s13) = _ :=
  s_for (fr := []) (vs := intsV (List.range' 0 b.length)) (it_range (n := b.length) (ev_len (s := b) rfl (by lia)) (by lia))
 rcases out_loop (G := G) (φ := φ) (F := F) (c := c) hM hs (a := a) (m := m) (pre := pre) (post := post) ha b [] (row0 a.length) 0 s7 s8 s9 s10 s11 s12 s13 (by simp [row0]) (by simpa using hb) with ⟨σ', e4⟩ | ⟨row', bi', bch', dist', mn', ix', sb', iD', e4⟩
 ·exact ⟨_, ss_ret (e3.trans e4)⟩
 ·rw [ss_cons (e3.trans e4)]
  exact ⟨_, ss_ret (s_ret (fr := []) rfl)⟩
theorem tail_run (hM : G.const[gM]? = some (.int 2)) (hs : ∀ x y, φ cS [.str [x], .str [y]] = some (.int (c x y))) {a b : List Nat} {m : Int} {pre post : Slot} {t : Store} (ha : a.length ≤ 1000) (hb : b.length ≤ 1000) (ha0 : a ≠ []) (ht : t.length = 9) :
  ∃ σ, exSs G φ F (tTail gM cS) (L0 a b (.val (.int m)) pre post t) = some (.rt (.int (tailL c a b m)), σ) := by
 unfold tTail tailL
 have e0 : evX G φ (.bin .Mult (.bin .Sub (.bf .len (.cons (.var 1) .nil)) (.bf .len (.cons (.var 0) .nil))) (.glob gM)) (L0 a b (.val (.int m)) pre post t) = some (.int (((b.length : Int) - a.length) * 2)) := by
  refine ev_bin (ev_bin (ev_len (s := b) rfl (by lia)) (ev_len (s := a) rfl (by lia)) rfl) (ev_glob hM) ?_
  have h1 : small ((b.length : Int) - a.length) = true := small_of (by lia) (by lia)
  have h2 : small 2 = true := by decide
  simp only [bAI, bAS, bAL, bSub, bMI, bMS, bFD, bMod, h1, h2, Bool.and_self, if_true]
 have e1 := s_if0 (F := F) (t := (.cons (.ret [] (.bin .Add (.var 2) (.const (.int 1)))) .nil)) (e := .nil) (ev_cmp (op := .Gt) (b := .var 2) e0 (y := .int m) rfl rfl) rfl
 by_cases h : ((b.length : Int) - a.length) * 2 > m
 ·rw [if_pos (by simpa using h)] at e1
  rw [if_pos h]
  exact ⟨_, ss_ret (e1.trans (ss_ret (s_ret (fr := []) (v := .int (m + 1)) rfl)))⟩
 ·rw [if_neg (by simpa using h)] at e1
  rw [if_neg h, ss_cons (e1.trans ss_nil)]
  exact rows_run hM hs ha hb ha0 ht
theorem mid_run (hX : G.const[gX]? = some (.int 40)) (hM : G.const[gM]? = some (.int 2)) (hs : ∀ x y, φ cS [.str [x], .str [y]] = some (.int (c x y))) {a b : List Nat} {m : Int} {pre post : Slot} {t : Store} (ha : a.length ≤ 40) (hb : b.length ≤ 40) (ht : t.length = 9) :
  ∃ σ, exSs G φ F (tMid gX gM cS) (L0 a b (.val (.int m)) pre post t) = some (.rt (.int (midL c a b m)), σ) := by
 unfold tMid midL
 have la := ev_len (G := G) (φ := φ) (a := .var 0) (σ := L0 a b (.val (.int m)) pre post t) (s := a) rfl (by lia)
 have lb := ev_len (G := G) (φ := φ) (a := .var 1) (σ := L0 a b (.val (.int m)) pre post t) (s := b) rfl (by lia)
 have n0 : evX G φ (.notX (.var 0)) (L0 a b (.val (.int m)) pre post t) = some (.bool (!(!a.isEmpty))) := ev_not (x := .str a) rfl (truth_str (by lia))
 have n1 : evX G φ (.notX (.var 1)) (L0 a b (.val (.int m)) pre post t) = some (.bool (!(!b.isEmpty))) := ev_not (x := .str b) rfl (truth_str (by lia))
 rw [Bool.not_not] at n0 n1
 have e0 : ∃ v, evX G φ (.orX (.notX (.var 0)) (.notX (.var 1))) (L0 a b (.val (.int m)) pre post t) = some v ∧ v.truth = some (a.isEmpty || b.isEmpty) := by
  cases h : a.isEmpty with
  | true => rw [h] at n0; exact ⟨_, ev_or_t n0 rfl, rfl⟩
  | false => rw [h] at n0; exact ⟨_, (ev_or_f n0 rfl).trans n1, rfl⟩
 obtain ⟨v0, e0, t0⟩ := e0
 have e1 := s_if0 (F := F) (t := (.cons (.ret [] (.bin .Mult (.glob gM) (.bin .Add (.bf .len (.cons (.var 0) .nil)) (.bf .len (.cons (.var 1) .nil))))) .nil)) (e := .nil) e0 t0
 by_cases h : (a.isEmpty || b.isEmpty) = true
 ·rw [if_pos h] at e1 ⊢
  refine ⟨_, ss_ret (e1.trans (ss_ret (s_ret (fr := []) (v := .int (2 * ((a.length : Int) + b.length))) ?_)))⟩
  refine ev_bin (ev_glob hM) (ev_bin la lb rfl) ?_
  have h1 : small ((a.length : Int) + b.length) = true := small_of (by lia) (by lia)
  have h2 : small 2 = true := by decide
  simp only [bAI, bAS, bAL, bSub, bMI, bMS, bFD, bMod, h1, h2, Bool.and_self, if_true]
 ·rw [if_neg h] at e1 ⊢
  rw [ss_cons (e1.trans ss_nil)]
  have c1 : evX G φ (.cmp .Gt (.bf .len (.cons (.var 0) .nil)) (.glob gX)) (L0 a b (.val (.int m)) pre post t) = some (.bool (decide ((a.length : Int) > 40))) := ev_cmp la (ev_glob hX) rfl
  have c2 : evX G φ (.cmp .Gt (.bf .len (.cons (.var 1) .nil)) (.glob gX)) (L0 a b (.val (.int m)) pre post t) = some (.bool (decide ((b.length : Int) > 40))) := ev_cmp lb (ev_glob hX) rfl
  rw [show decide ((a.length : Int) > 40) = false from decide_eq_false (by lia)] at c1
  rw [show decide ((b.length : Int) > 40) = false from decide_eq_false (by lia)] at c2
  have e2 := s_if0 (F := F) (t := (.cons (.ret [] (.bin .Add (.var 2) (.const (.int 1)))) .nil)) (e := .nil) ((ev_or_f c1 rfl).trans c2) rfl
  rw [if_neg (by decide)] at e2
  rw [ss_cons (e2.trans ss_nil)]
  have e3 := s_if0 (F := F) (t := (.cons (.asgP [] [(0, false), (1, false)] (.cons (.var 1) (.cons (.var 0) .nil))) .nil)) (e := .nil) (ev_cmp (op := .Lt) lb la rfl) rfl
  simp only [Bool.or_eq_true, List.isEmpty_iff, not_or] at h
  by_cases hl : b.length < a.length
  ·rw [if_pos (by simpa using hl)] at e3
   rw [if_pos hl]
   have e4 : exS G φ F (.asgP [] [(0, false), (1, false)] (.cons (.var 1) (.cons (.var 0) .nil))) (L0 a b (.val (.int m)) pre post t) = some (.nx, L0 b a (.val (.int m)) pre post t) :=
    s_asgP (fr := []) (xs_cons (x := .str b) rfl (xs_cons (x := .str a) rfl xs_nil)) rfl
   rw [ss_cons (e3.trans ((ss_cons e4).trans ss_nil))]
   exact tail_run hM hs (by lia) (by lia) h.2 ht
  ·rw [if_neg (by simpa using hl)] at e3
   rw [if_neg hl, ss_cons (e3.trans ss_nil)]
   exact tail_run hM hs (by lia) (by lia) h.1 ht
theorem s_whl {cd : X} {b : Ss} : exS G φ F (.whl cd b) σ = whileLoop (fun σ => (evX G φ cd σ).bind PV.truth) (fun σ => exSs G φ F b σ) F σ := rfl
theorem run_lev (hX : G.const[gX]? = some (.int 40)) (hM : G.const[gM]? = some (.int 2)) (hs : ∀ x y, φ cS [.str [x], .str [y]] = some (.int (c x y))) {a b : List Nat} {m : Int} (ha : a.length ≤ 40) (hb : b.length ≤ 40) (hF : 41 < F) :
  runFn G φ F (fLev gX gM cS) [.str a, .str b, .int m] = some (.int (levP c a b m)) := by
 suffices h : ∃ σ, exSs G φ F (fLev gX gM cS).body (L0 a b (.val (.int m)) .no .no [.no, .no, .no, .no, .no, .no, .no, .no, .no]) = some (.rt (.int (levP c a b m)), σ) by
  obtain ⟨σ, h⟩ := h
  exact run_fn rfl h
 unfold fLev levP
 have e1 := s_if0 (F := F) (t := (.cons (.ret [] (.const (.int 0))) .nil)) (e := .nil) (σ := L0 a b (.val (.int m)) .no .no [.no, .no, .no, .no, .no, .no, .no, .no, .no])
  (ev_cmp (G := G) (φ := φ) (op := .Eq) (a := .var 0) (b := .var 1) (x := .str a) (y := .str b) rfl rfl rfl) rfl
 by_cases h : a = b
 ·rw [if_pos (by simpa using h)] at e1
  rw [if_pos h]
  exact ⟨_, ss_ret (e1.trans (ss_ret (s_ret (fr := []) rfl)))⟩
 ·rw [if_neg (by simpa using h)] at e1
  rw [if_neg h]
  dsimp only
  rw [ss_cons (e1.trans ss_nil)]
  rw [ss_cons (σ' := L0 a b (.val (.int m)) (.val (.int (0 : Nat))) .no [.no, .no, .no, .no, .no, .no, .no, .no, .no]) (s_asg0 (v := .int (0 : Nat)) rfl)]
  have h1 := cpl_le a b
  have e2 := pre_loop (G := G) (φ := φ) (F := F) (a := a) (b := b) (m := .val (.int m)) (post := .no) (t := [.no, .no, .no, .no, .no, .no, .no, .no, .no]) (by lia) (by lia) F 0 (Nat.zero_le _) (Nat.zero_le _) (by simp only [List.drop_zero]; lia)
  simp only [List.drop_zero, Nat.zero_add] at e2
  rw [ss_cons (s_whl.trans e2)]
  have ha1 : (a.drop (cpl a b)).length ≤ 40 := by simp; lia
  have hb1 : (b.drop (cpl a b)).length ≤ 40 := by simp; lia
  rw [ss_cons (σ' := L0 (a.drop (cpl a b)) b (.val (.int m)) (.val (.int (cpl a b))) .no [.no, .no, .no, .no, .no, .no, .no, .no, .no]) (s_asg0 (v := .str (a.drop (cpl a b))) (ev_slc (x := .str a) (y := .int (cpl a b)) (z := .none) rfl rfl rfl (slc_drop h1.1 (by lia))))]
  rw [ss_cons (σ' := L0 (a.drop (cpl a b)) (b.drop (cpl a b)) (.val (.int m)) (.val (.int (cpl a b))) .no [.no, .no, .no, .no, .no, .no, .no, .no, .no]) (s_asg0 (v := .str (b.drop (cpl a b))) (ev_slc (x := .str b) (y := .int (cpl a b)) (z := .none) rfl rfl rfl (slc_drop h1.2 (by lia))))]
  generalize hA : a.drop (cpl a b) = a1 at ha1 ⊢
  generalize hB : b.drop (cpl a b) = b1 at hb1 ⊢
  rw [ss_cons (σ' := L0 a1 b1 (.val (.int m)) (.val (.int (cpl a b))) (.val (.int (-((0 : Nat) : Int)))) [.no, .no, .no, .no, .no, .no, .no, .no, .no]) (s_asg0 (v := .int (-((0 : Nat) : Int))) rfl)]
  have h2 := cpl_le a1.reverse b1.reverse
  simp only [List.length_reverse] at h2
  have e3 := post_loop (G := G) (φ := φ) (F := F) (a := a1) (b := b1) (m := .val (.int m)) (pre := .val (.int (cpl a b))) (t := [.no, .no, .no, .no, .no, .no, .no, .no, .no]) (by lia) (by lia) F 0 (Nat.zero_le _) (Nat.zero_le _) (by simp only [List.drop_zero]; lia)
  simp only [List.drop_zero, Nat.zero_add] at e3
  rw [ss_cons (s_whl.trans e3)]
  generalize cpl a1.reverse b1.reverse = k at h2 ⊢
  rw [ss_cons (σ' := L0 (a1.take (a1.length - k)) b1 (.val (.int m)) (.val (.int (cpl a b))) (.val (.int (-(k : Int)))) [.no, .no, .no, .no, .no, .no, .no, .no, .no]) (s_asg0 (v := .str (a1.take (a1.length - k))) (ev_upto (i := 4) rfl rfl h2.1 (by lia)))]
  rw [ss_cons (σ' := L0 (a1.take (a1.length - k)) (b1.take (b1.length - k)) (.val (.int m)) (.val (.int (cpl a b))) (.val (.int (-(k : Int)))) [.no, .no, .no, .no, .no, .no, .no, .no, .no]) (s_asg0 (v := .str (b1.take (b1.length - k))) (ev_upto (i := 4) rfl rfl h2.2 (by lia)))]
  exact mid_run hX hM hs (by simp; lia) (by simp; lia) rfl
end
end Rs.Internal.M
end
section
set_option tactic.hygienic false
set_option backward.match.sparseCases false
namespace Rs.Internal.M
open PySem
noncomputable def subC (x y : Nat) : Nat := if x = y then 0 else if lowerL [x] = lowerL [y] then 1 else 2
theorem subC_ok : CostOk subC where
 refl := fun x => by simp [subC]
 le2 := fun x y => by
  unfold subC
  split
  ·lia
  ·split <;> lia
 sym := fun x y => by
  unfold subC
  by_cases h : x = y
  ·subst h; rfl
  ·have h' : ¬ y = x := fun e => h e.symm
   rw [if_neg h, if_neg h']
   by_cases h2 : lowerL [x] = lowerL [y]
   ·rw [if_pos h2, if_pos h2.symm]
   ·rw [if_neg h2, if_neg (fun e => h2 e.symm)]
theorem lowerL_len (s : List Nat) : (lowerL s).length ≤ 3 * s.length := by
 have := PyProof.Rows.len_lower ⟨s.toArray⟩
 simpa [lowerL, Str.length] using this
section
variable {G : Gl} {φ : Nat → List PV → Option PV} {F : Nat} {σ : Store}
theorem ev_lower {a : X} {s : List Nat} (ha : evX G φ a σ = some (.str s)) (h : s.length ≤ 100000) : evX G φ (.mf .lower a .nil) σ = some (.str (lowerL s)) := by
 have := lowerL_len s
 exact ev_mf ha xs_nil (by simp only [mfLower, lowerE, fitL_le (show (lowerL s).length ≤ 1048576 by lia), if_true])
noncomputable def fSub (gC gM : Nat) : Fn := { np := 2, ns := 2, body :=
 (.cons (.ifS [] (.cmp .Eq (.var 0) (.var 1)) (.cons (.ret [] (.const (.int 0)))
  .nil) .nil)
 (.cons (.ifS [] (.cmp .Eq (.mf .lower (.var 0) .nil) (.mf .lower (.var 1) .nil)) (.cons (.ret [] (.glob gC))
  .nil) .nil)
 (.cons (.ret [] (.glob gM))
 .nil))) }
theorem run_sub {gC gM : Nat} (hC : G.const[gC]? = some (.int 1)) (hM : G.const[gM]? = some (.int 2)) (x y : Nat) : runFn G φ F (fSub gC gM) [.str [x], .str [y]] = some (.int (subC x y)) := by
 refine run_fn (σ := [.val (.str [x]), .val (.str [y])]) rfl ?_
 show exSs G φ F (fSub gC gM).body [.val (.str [x]), .val (.str [y])] = _
 unfold fSub subC
 have e1 := s_if0 (F := F) (t := (.cons (.ret [] (.const (.int 0))) .nil)) (e := .nil) (σ := [.val (.str [x]), .val (.str [y])])
  (ev_cmp (G := G) (φ := φ) (op := .Eq) (a := .var 0) (b := .var 1) (x := .str [x]) (y := .str [y]) rfl rfl rfl) rfl
 by_cases h : x = y
 ·subst h
  rw [if_pos (by simp)] at e1
  rw [if_pos rfl]
  exact ss_ret e1
 ·rw [if_neg (by simpa using h)] at e1
  rw [if_neg h, ss_cons (e1.trans ss_nil)]
  have e2 := s_if0 (F := F) (t := (.cons (.ret [] (.glob gC)) .nil)) (e := .nil) (σ := [.val (.str [x]), .val (.str [y])])
   (ev_cmp (G := G) (φ := φ) (op := .Eq) (ev_lower (a := .var 0) (s := [x]) rfl (by simp)) (ev_lower (a := .var 1) (s := [y]) rfl (by simp)) rfl) rfl
  by_cases h2 : lowerL [x] = lowerL [y]
  ·rw [if_pos (by simpa using h2)] at e2
   rw [if_pos h2]
   exact ss_ret (e2.trans (ss_ret (s_ret (fr := []) (ev_glob hC))))
  ·rw [if_neg (by simpa using h2)] at e2
   rw [if_neg h2, ss_cons (e2.trans ss_nil)]
   exact ss_ret (s_ret (fr := []) (ev_glob hM))
noncomputable def hidL : List Nat := [173, 847, 6150, 6155, 6156, 6157, 8203, 8204, 8205, 8288, 65279]
noncomputable def hidC (k : Nat) : Nat := if k < 11 then (hidL[k]?).getD 0 else 65013 + k
noncomputable def fHid : Fn := { np := 1, ns := 1, body :=
 (.cons (.ret [] (.bf .chr (.cons (.ite (.cmp .Lt (.var 0) (.const (.int 11))) (.idx (.list (.cons (.const (.int 173)) (.cons (.const (.int 847)) (.cons (.const (.int 6150)) (.cons (.const (.int 6155)) (.cons (.const (.int 6156)) (.cons (.const (.int 6157)) (.cons (.const (.int 8203)) (.cons (.const (.int 8204)) (.cons (.const (.int 8205)) (.cons (.const (.int 8288)) (.cons (.const (.int 65279)) .nil)))))))))))) (.var 0)) (.bin .Add (.const (.int 65013)) (.var 0))) .nil)))
 .nil) }
theorem ev_chr {a : X} {n : Nat} (ha : evX G φ a σ = some (.int n)) (h : n < 1114112) : evX G φ (.bf .chr (.cons a .nil)) σ = some (.str [n]) := by
 refine ev_bf (xs_cons ha xs_nil) ?_
 have c : (decide ((0 : Int) ≤ n) && decide ((n : Int) < 1114112)) = true := by
  simp only [Bool.and_eq_true, decide_eq_true_eq]; lia
 simp only [bfChr, chrE, c, if_true, Int.toNat_natCast]
set_option tactic.hygienic true in
theorem hidC_lt {k : Nat} (h : k < 27) : hidC k < 1114112 := by
 unfold hidC
 split
 ·rename_i h'
  have : ∀ j < 11, (hidL[j]?).getD 0 < 1114112 := by decide
  exact this k h'
 ·lia
theorem run_hid {k : Nat} (h : k < 27) : runFn G φ F fHid [.int k] = some (.str [hidC k]) := by
 refine run_fn (σ := [.val (.int k)]) rfl ?_
 show exSs G φ F fHid.body [.val (.int k)] = _
 unfold fHid
 refine ss_ret (s_ret (fr := []) (ev_chr ?_ (hidC_lt h)))
 have e1 := ev_ite (G := G) (φ := φ) (a := .idx (.list (.cons (.const (.int 173)) (.cons (.const (.int 847)) (.cons (.const (.int 6150)) (.cons (.const (.int 6155)) (.cons (.const (.int 6156)) (.cons (.const (.int 6157)) (.cons (.const (.int 8203)) (.cons (.const (.int 8204)) (.cons (.const (.int 8205)) (.cons (.const (.int 8288)) (.cons (.const (.int 65279)) .nil)))))))))))) (.var 0))
  (b := .bin .Add (.const (.int 65013)) (.var 0)) (σ := [.val (.int k)]) (ev_cmp (op := .Lt) (a := .var 0) (b := .const (.int 11)) (x := .int k) (y := .int 11) rfl rfl rfl) rfl
 refine e1.trans ?_
 unfold hidC
 by_cases h1 : k < 11
 ·rw [if_pos (by simp; lia), if_pos h1]
  refine ev_idx (ev_list (q := hidL.map fun (n : Nat) => PV.int n) rfl (by decide)) (y := .int k) rfl (idx_lst ?_ (by decide))
  rw [List.getElem?_map]
  have : k < hidL.length := h1
  rw [List.getElem?_eq_getElem this]; rfl
 ·rw [if_neg (by simp; lia), if_neg h1]
  exact ev_bin (x := .int 65013) (y := .int k) rfl rfl rfl
noncomputable def letL : List Nat := [0, 1, 2, 4, 7, 8, 9, 10, 11, 12]
noncomputable def letC (p form : Nat) : Nat := if form % 3 = 0 then 97 + p else if form % 3 = 1 then 65 + p else 119808 + 52 * (letL[form / 3]?).getD 0 + p
noncomputable def fLet : Fn := { np := 2, ns := 2, body :=
 (.cons (.ifS [] (.cmp .Eq (.bin .Mod (.var 1) (.const (.int 3))) (.const (.int 0))) (.cons (.ret [] (.bf .chr (.cons (.bin .Add (.const (.int 97)) (.var 0)) .nil)))
  .nil) .nil)
 (.cons (.ifS [] (.cmp .Eq (.bin .Mod (.var 1) (.const (.int 3))) (.const (.int 1))) (.cons (.ret [] (.bf .chr (.cons (.bin .Add (.const (.int 65)) (.var 0)) .nil)))
  .nil) .nil)
 (.cons (.ret [] (.bf .chr (.cons (.bin .Add (.bin .Add (.const (.int 119808)) (.bin .Mult (.const (.int 52)) (.idx (.list (.cons (.const (.int 0)) (.cons (.const (.int 1)) (.cons (.const (.int 2)) (.cons (.const (.int 4)) (.cons (.const (.int 7)) (.cons (.const (.int 8)) (.cons (.const (.int 9)) (.cons (.const (.int 10)) (.cons (.const (.int 11)) (.cons (.const (.int 12)) .nil))))))))))) (.bin .FloorDiv (.var 1) (.const (.int 3)))))) (.var 0)) .nil)))
 .nil))) }
theorem fmod_nat (a b : Nat) : (a : Int).fmod (b : Int) = ((a % b : Nat) : Int) := by
 rw [Int.fmod_eq_emod_of_nonneg _ (by lia)]; rfl
theorem fdiv_nat (a b : Nat) : (a : Int).fdiv (b : Int) = ((a / b : Nat) : Int) := by
 rw [Int.fdiv_eq_ediv_of_nonneg _ (by lia)]; rfl
theorem run_let {p form : Nat} (hp : p < 26) (hf : form < 30) : runFn G φ F fLet [.int p, .int form] = some (.str [letC p form]) := by
 refine run_fn (σ := [.val (.int p), .val (.int form)]) rfl ?_
 show exSs G φ F fLet.body [.val (.int p), .val (.int form)] = _
 unfold fLet letC
 have em : evX G φ (.bin .Mod (.var 1) (.const (.int 3))) [.val (.int p), .val (.int form)] = some (.int ((form % 3 : Nat) : Int)) := by
  refine ev_bin (x := .int form) (y := .int 3) rfl rfl ?_
  have : decide ((3 : Int) ≠ 0) = true := by decide
  simp only [bAI, bAS, bAL, bSub, bMI, bMS, bFD, bMod, this, if_true]
  rw [show (3 : Int) = ((3 : Nat) : Int) from rfl, fmod_nat]
 have e1 := s_if0 (F := F) (t := (.cons (.ret [] (.bf .chr (.cons (.bin .Add (.const (.int 97)) (.var 0)) .nil))) .nil)) (e := .nil) (ev_cmp (op := .Eq) em (b := .const (.int 0)) (y := .int 0) rfl rfl) rfl
 have e2 := s_if0 (F := F) (t := (.cons (.ret [] (.bf .chr (.cons (.bin .Add (.const (.int 65)) (.var 0)) .nil))) .nil)) (e := .nil) (ev_cmp (op := .Eq) em (b := .const (.int 1)) (y := .int 1) rfl rfl) rfl
 by_cases h0 : form % 3 = 0
 ·rw [if_pos (by rw [h0]; decide)] at e1
  rw [if_pos h0]
  exact ss_ret (e1.trans (ss_ret (s_ret (fr := []) (ev_chr (n := 97 + p) (ev_bin (x := .int 97) (y := .int p) rfl rfl (by simp only [bAI, bAS, bAL, bSub, bMI, bMS, bFD, bMod]; congr 2)) (by lia)))))
 ·rw [if_neg (by simp; lia)] at e1
  rw [if_neg h0, ss_cons (e1.trans ss_nil)]
  by_cases h1 : form % 3 = 1
  ·rw [if_pos (by rw [h1]; decide)] at e2
   rw [if_pos h1]
   exact ss_ret (e2.trans (ss_ret (s_ret (fr := []) (ev_chr (n := 65 + p) (ev_bin (x := .int 65) (y := .int p) rfl rfl (by simp only [bAI, bAS, bAL, bSub, bMI, bMS, bFD, bMod]; congr 2)) (by lia)))))
  ·rw [if_neg (by simp; lia)] at e2
   rw [if_neg h1, ss_cons (e2.trans ss_nil)]
   have hk : form / 3 < 10 := by lia
   have hle : (letL[form / 3]?).getD 0 ≤ 12 := by
    have : ∀ j < 10, (letL[j]?).getD 0 ≤ 12 := by decide
    exact this _ hk
   have ed : evX G φ (.bin .FloorDiv (.var 1) (.const (.int 3))) [.val (.int p), .val (.int form)] = some (.int ((form / 3 : Nat) : Int)) := by
    refine ev_bin (x := .int form) (y := .int 3) rfl rfl ?_
    have : (decide ((3 : Int) ≠ 0) && small 3) = true := by decide
    simp only [bAI, bAS, bAL, bSub, bMI, bMS, bFD, bMod, this, if_true]
    rw [show (3 : Int) = ((3 : Nat) : Int) from rfl, fdiv_nat]
   have hget : (letL.map fun (n : Nat) => PV.int n)[form / 3]? = some (.int (((letL[form / 3]?).getD 0 : Nat) : Int)) := by
    rw [List.getElem?_map]
    have : form / 3 < letL.length := hk
    rw [List.getElem?_eq_getElem this]; rfl
   generalize (letL[form / 3]?).getD 0 = v at hle hget ⊢
   refine ss_ret (s_ret (fr := []) (ev_chr (n := 119808 + 52 * v + p) (ev_bin (ev_bin (x := .int 119808) rfl (ev_bin (x := .int 52) rfl (ev_idx (ev_list (q := letL.map fun (n : Nat) => PV.int n) rfl (by decide)) ed (idx_lst hget (by decide))) (r := .int ((52 * v : Nat) : Int)) ?_) rfl) (y := .int p) rfl (by simp only [bAI, bAS, bAL, bSub, bMI, bMS, bFD, bMod]; rfl)) (by lia)))
   have s1 : small 52 = true := by decide
   have s2 : small (v : Int) = true := small_nat (by lia)
   simp only [bAI, bAS, bAL, bSub, bMI, bMS, bFD, bMod, s1, s2, Bool.and_self, if_true]
   rfl
noncomputable def fInB1 : Fn := { np := 1, ns := 1, body :=
 (.cons (.ret [] (.inB1 (.bf .ord (.cons (.var 0) .nil))))
 .nil) }
noncomputable def fMapB3 : Fn := { np := 1, ns := 2, body :=
 (.cons (.asg [] 1 (.getB3 (.bf .ord (.cons (.var 0) .nil))))
 (.cons (.ifS [] (.cmp .IsNot (.var 1) (.const .none)) (.cons (.ret [] (.var 1))
  .nil) .nil)
 (.cons (.ret [] (.mf .lower (.var 0) .nil))
 .nil))) }
noncomputable def mapC (G : Gl) (x : Nat) : List Nat := match G.b3 x with
 | some t => t
 | none => lowerL [x]
theorem ev_ord {a : X} {x : Nat} (ha : evX G φ a σ = some (.str [x])) : evX G φ (.bf .ord (.cons a .nil)) σ = some (.int x) := ev_bf (xs_cons ha xs_nil) rfl
theorem run_inB1 (x : Nat) : runFn G φ F fInB1 [.str [x]] = some (.bool (G.b1 x)) := by
 refine run_fn (σ := [.val (.str [x])]) rfl (ss_ret (s_ret (fr := []) ?_))
 have := ev_ord (G := G) (φ := φ) (a := .var 0) (x := x) (σ := [.val (.str [x])]) rfl
 show evX G φ (.inB1 (.bf .ord (.cons (.var 0) .nil))) [.val (.str [x])] = _
 exact obnd this rfl
theorem run_mapB3 (x : Nat) : runFn G φ F fMapB3 [.str [x]] = some (.str (mapC G x)) := by
 have e0 : evX G φ (.getB3 (.bf .ord (.cons (.var 0) .nil))) [.val (.str [x]), .no] = some (match G.b3 x with | some s => .str s | none => .none) := by
  exact obnd (ev_ord (G := G) (φ := φ) (a := .var 0) (x := x) (σ := [.val (.str [x]), .no]) rfl) rfl
 refine run_fn (σ := [.val (.str [x]), .val (match G.b3 x with | some s => .str s | none => .none)]) rfl ?_
 show exSs G φ F fMapB3.body [.val (.str [x]), .no] = _
 unfold fMapB3 mapC
 rw [ss_cons (σ' := [.val (.str [x]), .val (match G.b3 x with | some s => .str s | none => .none)]) (s_asg0 e0)]
 cases h : G.b3 x with
 | some t =>
  exact ss_ret ((s_if0 (G := G) (φ := φ) (F := F) (t := (.cons (.ret [] (.var 1)) .nil)) (e := .nil) (σ := [.val (.str [x]), .val (.str t)]) (ev_cmp (G := G) (φ := φ) (op := .IsNot) (a := .var 1) (b := .const .none) (x := .str t) (y := .none) (t := true) rfl rfl rfl) rfl).trans (ss_ret (s_ret (fr := []) rfl)))
 | none =>
  rw [ss_cons (σ' := [.val (.str [x]), .val .none]) ((s_if0 (G := G) (φ := φ) (F := F) (t := (.cons (.ret [] (.var 1)) .nil)) (e := .nil) (c := .cmp .IsNot (.var 1) (.const .none)) (v := .bool false) (b := false) (σ := [.val (.str [x]), .val .none]) (ev_cmp (G := G) (φ := φ) (op := .IsNot) (a := .var 1) (b := .const .none) (x := .none) (y := .none) (t := false) rfl rfl rfl) rfl).trans (ss_nil (G := G) (φ := φ) (F := F)))]
  exact ss_ret (s_ret (fr := []) (ev_lower (a := .var 0) (s := [x]) rfl (by simp)))
noncomputable def prepC (G : Gl) (x : Nat) : List Nat := if G.b1 x then [] else mapC G x
noncomputable def prepL (G : Gl) (s : List Nat) : List Nat := s.flatMap (prepC G)
noncomputable def fPrep (i1 i3 : Nat) : Fn := { np := 1, ns := 1, body :=
 (.cons (.ret [] (.mf .join (.const (.str [])) (.cons (.comp [] 1 [0] true (.val (.var 0)) (.cons (.notX (.call i1 (.cons (.var 0) .nil))) .nil) (.fin (.call i3 (.cons (.var 0) .nil)))) .nil)))
 .nil) }
theorem compLoop_map {f : PV → Option (List PV)} {g : PV → List PV} : ∀ (l : List PV), (∀ v ∈ l, f v = some (g v)) → compLoop f l = some (l.flatMap g) := by
 intro l
 induction l with
 | nil =>
  intro _
  exact rfl
 | cons v l ih__ =>
  intro h
  exact obnd (h v (List.mem_cons_self ..)) (obnd (ih__ fun u hu => h u (List.mem_cons_of_mem _ hu)) rfl)
theorem strs_map : ∀ (l : List (List Nat)), strs? (strsV l) = some l := by
 intro l
 induction l with
 | nil =>
  exact rfl
 | cons s l ih__ =>
  show (strs? (strsV l)).map (s :: ·) = _
  rw [ih__]; rfl
theorem ev_join {a : X} {l : List (List Nat)} (ha : evX G φ a σ = some (.lst (strsV l))) (h1 : l.length ≤ 1000000) (h2 : l.flatten.length ≤ 1000000) : evX G φ (.mf .join (.const (.str [])) (.cons a .nil)) σ = some (.str l.flatten) := by
 refine ev_mf (x := .str []) rfl (xs_cons ha xs_nil) ?_
 have f1 := fitL_le (show l.flatten.length ≤ 1048576 by lia)
 have f2 := fitL_le (show (strsV l).length ≤ 1048576 by rw [List.length_map]; lia)
 simp only [mfJoin, joinE, strs_map, Option.bind_some, List.isEmpty_nil, f1, f2, Bool.and_self, if_true]
theorem run_prep {i1 i3 : Nat} (h1 : ∀ x, φ i1 [.str [x]] = some (.bool (G.b1 x))) (h3 : ∀ x, φ i3 [.str [x]] = some (.str (mapC G x))) (hb : ∀ i t, G.b3 i = some t → t.length ≤ 10) {s : List Nat} (hs : s.length ≤ 10000) :
  runFn G φ F (fPrep i1 i3) [.str s] = some (.str (prepL G s)) := by
 refine run_fn (σ := [.val (.str s)]) rfl (ss_ret (s_ret (fr := []) ?_))
 show evX G φ (.mf .join (.const (.str [])) (.cons (.comp [] 1 [0] true (.val (.var 0)) (.cons (.notX (.call i1 (.cons (.var 0) .nil))) .nil) (.fin (.call i3 (.cons (.var 0) .nil)))) .nil)) [.val (.str s)] = _
 have hmap : ∀ x, (mapC G x).length ≤ 10 := fun x => by
  unfold mapC
  cases h : G.b3 x with
  | some t => exact hb _ _ h
  | none => have := lowerL_len [x]; simp at this; show (lowerL [x]).length ≤ 10; lia
 let parts : List (List Nat) := s.flatMap fun (x : Nat) => if G.b1 x then [] else [mapC G x]
 have hparts : parts.flatten = prepL G s := by
  show (s.flatMap fun (x : Nat) => if G.b1 x then [] else [mapC G x]).flatten = s.flatMap (prepC G)
  induction s with
  | nil => rfl
  | cons x s ih =>
   have ih := ih (by simp at hs; lia)
   simp only [List.flatMap_cons, List.flatten_append, ih]
   congr 1
   unfold prepC
   split <;> simp
 have hpl : parts.length ≤ s.length ∧ parts.flatten.length ≤ 10 * s.length := by
  show (s.flatMap fun (x : Nat) => if G.b1 x then [] else [mapC G x]).length ≤ s.length ∧ (s.flatMap fun (x : Nat) => if G.b1 x then [] else [mapC G x]).flatten.length ≤ 10 * s.length
  clear hparts
  induction s with
  | nil => simp
  | cons x s ih =>
   have ih := ih (by simp at hs; lia)
   have := hmap x
   simp only [List.flatMap_cons, List.flatten_append, List.length_append, List.length_cons]
   cases h : G.b1 (x : Nat) with
   | true => simp only [if_true, List.length_nil, List.flatten_nil]; lia
   | false => simp only [Bool.false_eq_true, if_false, List.length_cons, List.length_nil, List.flatten_cons, List.flatten_nil, List.append_nil]; lia
 rw [← hparts]
 refine ev_join (l := parts) ?_ (by lia) (by lia)
 have it : evIt G φ (.val (.var 0)) [.val (.str s)] = some (s.map fun c => .str [c]) := it_val (x := .str s) rfl rfl (by simp; lia)
 have loop : compLoop (fun v => do
   let σ'' ← bindTg true [0] v (clr ([0] ++ (Gs.fin (.call i3 (.cons (.var 0) .nil))).tgs) (List.map (fun i => capS (getS [.val (.str s)] i)) [] ++ List.replicate 1 .no))
   let t ← evIfs G φ (.cons (.notX (.call i1 (.cons (.var 0) .nil))) .nil) σ''
   if t then evGs G φ (.fin (.call i3 (.cons (.var 0) .nil))) σ'' else some []) (s.map fun c => .str [c]) = some (strsV parts) := by
  rw [compLoop_map (g := fun v => match v with | .str [x] => if G.b1 x then [] else [.str (mapC G x)] | _ => [])]
  ·congr 1
   show (s.map fun c => PV.str [c]).flatMap _ = (s.flatMap fun (x : Nat) => if G.b1 x then [] else [mapC G x]).map PV.str
   rw [List.flatMap_map, List.map_flatMap]
   congr 1
   funext x
   dsimp only
   split <;> rfl
  ·intro v hv
   obtain ⟨x, _, rfl⟩ := List.mem_map.mp hv
   have c1 : evX G φ (.notX (.call i1 (.cons (.var 0) .nil))) [.val (.str [x])] = some (.bool (!G.b1 x)) := ev_not (ev_call (xs_cons (x := .str [x]) rfl xs_nil) (h1 x)) rfl
   have c2 : evX G φ (.call i3 (.cons (.var 0) .nil)) [.val (.str [x])] = some (.str (mapC G x)) := ev_call (xs_cons (x := .str [x]) rfl xs_nil) (h3 x)
   have c3 : evIfs G φ (.cons (.notX (.call i1 (.cons (.var 0) .nil))) .nil) [.val (.str [x])] = some (!G.b1 x) := by
    refine obnd c1 ?_
    cases G.b1 x <;> rfl
   show (do
    let t ← evIfs G φ (.cons (.notX (.call i1 (.cons (.var 0) .nil))) .nil) [.val (.str [x])]
    if t then evGs G φ (.fin (.call i3 (.cons (.var 0) .nil))) [.val (.str [x])] else some []) = _
   rw [c3]
   cases h : G.b1 x with
   | true => simp [h]
   | false =>
    show (evX G φ (.call i3 (.cons (.var 0) .nil)) [.val (.str [x])]).map (fun p => [p]) = _
    rw [c2]
    simp [h]
 simp only [Option.bind_eq_bind] at loop
 exact ev_comp it loop (by rw [List.length_map]; lia)
end
end Rs.Internal.M
end
section
set_option tactic.hygienic false
namespace Rs.Internal.M
open PySem PySem.W PySem.Calls PyProof.Rows PySem.SeqAt PySem.Builtin.Str
theorem call_at {G : Gl} {T : List Fn} {F n k : Nat} {f : Fn} (h : T[k]? = some f) (args : List PV) : callN G T F (n + 1) k args = runFn G (callN G T F n) F f args := by
 show (T[k]?).bind _ = _
 rw [h]; rfl
noncomputable def setIn (sks : List SK) : Option (List Int) := sks.findSome? fun | .set x is => if x = ("b1_set" : Str) then some is else none | z1 => none
noncomputable def dictIn (sks : List SK) : Option (List (Int × Str)) := sks.findSome? fun | .dict x l => if x = ("b3_exceptions" : Str) then some l else none | z1 => none
set_option tactic.hygienic true in
theorem setIn_mem {sks : List SK} (h : (setIn sks).isSome = true) : SK.set "b1_set" ((setIn sks).getD []) ∈ sks := by
 cases e : setIn sks with
 | none => rw [e] at h; cases h
 | some is =>
  obtain ⟨k, hk, hs⟩ := List.exists_of_findSome?_eq_some e
  cases k with
  | set x js =>
   dsimp only at hs
   split at hs
   ·rename_i hx
    injection hs with hs
    subst hx hs
    exact hk
   ·exact nope hs
  | _ => exact nope hs
set_option tactic.hygienic true in
theorem dictIn_mem {sks : List SK} (h : (dictIn sks).isSome = true) : SK.dict "b3_exceptions" ((dictIn sks).getD []) ∈ sks := by
 cases e : dictIn sks with
 | none => rw [e] at h; cases h
 | some is =>
  obtain ⟨k, hk, hs⟩ := List.exists_of_findSome?_eq_some e
  cases k with
  | dict x js =>
   dsimp only at hs
   split at hs
   ·rename_i hx
    injection hs with hs
    subst hx hs
    exact hk
   ·exact nope hs
  | _ => exact nope hs
noncomputable def glOf (sks : List SK) : Gl where
 const := (glsK sks).map (·.2)
 b1 := fun i => ((setIn sks).getD []).contains i
 b3 := fun i => (((dictIn sks).getD []).find? fun x => x.1 = i).map fun x => x.2.cps.toList
theorem tabOk_of {sks : List SK} (h1 : (setIn sks).isSome = true) (h2 : (dictIn sks).isSome = true) : TabOk sks (glOf sks) ((glsK sks).map (·.1)) where
 gl := rfl
 const := rfl
 b1 := ⟨_, setIn_mem h1, fun z1 => rfl⟩
 b3 := ⟨_, dictIn_mem h2, fun z1 => rfl⟩
theorem b3_short {sks : List SK} (h : (((dictIn sks).getD []).all fun x => Nat.ble x.2.cps.toList.length 10) = true) (i : Int) (t : List Nat) (e : (glOf sks).b3 i = some t) : t.length ≤ 10 := by
 replace e : (((dictIn sks).getD []).find? fun x => x.1 = i).map (fun x => x.2.cps.toList) = some t := e
 cases hf : ((dictIn sks).getD []).find? fun x => x.1 = i with
 | none => rw [hf] at e; exact nope e
 | some x =>
  rw [hf] at e
  injection e with e
  subst e
  exact Nat.le_of_ble_eq_true (List.all_eq_true.mp h x (List.mem_of_find?_eq_some hf))
theorem left_all {l : OpenLaw} {G : Gl} {gl fn : List Str} (w : World) (mg mb : Str → Option Value) (A : Around) (h' : Heap) (d : Addr) (f : Int → Option Value) (e : Addr) (S : Int → Bool) (n : Nat) (hh : A.handled = none) (hu : A.units + 2 < cLine) (h1 : mg "b1_set" = some (.ref e)) (h2 : h'.SetOf (intKind l.prog w) e S n) (h3 : ∀ i, S i = G.b1 i)
  (h4 : mg "b3_exceptions" = some (.ref d)) (h5 : h'.MapOf (intKind l.prog w) d f) (h6 : (d == sysModules) = false) (h7 : ∀ i, match f i with | some v => ∃ t tok, G.b3 i = some t ∧ v = .str ⟨t.toArray⟩ tok | none => G.b3 i = none) (h8 : h'.Ns mainGlobals mg) (h9 : h'.Ns builtinsNs mb) (h10 : ∀ x ∈ plainNames, mg x = none) (h11 : ∀ x : Str, x ≠ "__name__" → mb x = bootBuiltins x) :
  Left l.prog w A G h' gl fn mg mb where
 repl := fun cx env O σ s o apos pos a b k1 p1 k2 p2 t ok hl hb hab h ha q1 q2 => left_repl ok hl hb hab h ha q1 q2
 b1 := fun cx env O σ s e np pos i ok hg h => left_b1 h8 h1 h2 h3 ok hg h
 b3 := fun cx env O σ s e np apos pos i ok hl hg h hn => left_b3 h8 h4 h5 h6 h7 ok hl hg h hn
end Rs.Internal.M
end
section
set_option tactic.hygienic false
namespace Rs.Internal.M
noncomputable def lets : List Tok → List Nat
 | [] => []
 | some c :: p => c :: lets p
 | none :: p => lets p
noncomputable def gapAt : List Tok → Nat → Bool
 | [], z1 => false
 | none :: p, 0 => true
 | none :: p, k + 1 => gapAt p (k + 1)
 | some z1 :: p, 0 => false
 | some z1 :: p, k + 1 => gapAt p k
theorem fits_lets : ∀ p : List Tok, FitsT p (lets p)
 | [] => rfl
 | some c :: p => ⟨lets p, rfl, fits_lets p⟩
 | none :: p => ⟨[], lets p, rfl, fits_lets p⟩
theorem fits_len (pl : Nat → Bool) : ∀ (p : List Tok) (t : List Nat), (∀ c ∈ lets p, pl c = true) → FitsT p t → (lets p).length ≤ (t.filter pl).length
 | [], t, z1, z2 => Nat.zero_le _
 | some c :: p, t, hl, hh => by
  obtain ⟨t', e, h⟩ := hh
  subst e
  have := fits_len pl p t' (fun x hx => hl x (List.mem_cons_of_mem _ hx)) h
  have hc := hl c (List.mem_cons_self ..)
  rw [List.filter_cons_of_pos hc]
  simp only [lets, List.length_cons]; lia
 | none :: p, t, hl, hh => by
  refine cps fun PP kk => ?_
  obtain ⟨u, t', e, h⟩ := hh
  refine kk ?_
  clear kk PP
  subst e
  have := fits_len pl p t' hl h
  rw [List.filter_append, List.length_append]
  simp only [lets]; lia
theorem fits_cut : ∀ (p : List Tok) (t : List Nat), FitsT p t → t = lets p ∨ ∃ a x b, t = a ++ x :: b ∧ FitsT p (a ++ b)
 | [], t, h => .inl h
 | some c :: p, t, hh => by
  obtain ⟨t', e, h⟩ := hh
  subst e
  rcases fits_cut p t' h with h1 | ⟨a, x, b, h1, h2⟩
  ·left; rw [h1]; rfl
  ·right; exact ⟨c :: a, x, b, by rw [h1]; rfl, a ++ b, rfl, h2⟩
 | none :: p, t, hh => by
  refine cps fun PP kk => ?_
  obtain ⟨u, t', e, h⟩ := hh
  refine kk ?_
  clear kk PP
  subst e
  cases u with
  | nil =>
   rcases fits_cut p t' h with h1 | ⟨a, x, b, h1, h2⟩
   ·left; simpa [lets] using h1
   ·right; exact ⟨a, x, b, by simpa using h1, [], a ++ b, rfl, h2⟩
  | cons x u => right; exact ⟨[], x, u ++ t', rfl, u, t', rfl, h⟩
theorem gap_fits (S : List Nat) : ∀ (p : List Tok) (k : Nat), gapAt p k = true → FitsT p ((lets p).take k ++ (S ++ (lets p).drop k))
 | [], k, h => by simp [gapAt] at h
 | none :: p, 0, h => ⟨S, lets p, by simp [lets], fits_lets p⟩
 | none :: p, k + 1, h => ⟨[], _, rfl, gap_fits S p (k + 1) h⟩
 | some c :: p, 0, h => by simp [gapAt] at h
 | some c :: p, k + 1, h => ⟨_, by simp only [lets, List.take_succ_cons, List.drop_succ_cons, List.cons_append], gap_fits S p k h⟩
theorem fits_gap' (pl : Nat → Bool) {S : List Nat} (hS : S ≠ []) (hs : ∀ c ∈ S, pl c = false) : ∀ (p : List Tok) (k : Nat), (∀ c ∈ lets p, pl c = true) → k ≤ (lets p).length →
  FitsT p ((lets p).take k ++ (S ++ (lets p).drop k)) → gapAt p k = true
 | [], k, z1, hk, h => by
  have h' : (lets []).take k ++ (S ++ (lets []).drop k) = [] := h
  simp [lets] at h'
  exact absurd h' hS
 | some c :: p, 0, hl, hk, h => by
  obtain ⟨t', e, h⟩ := h
  cases S with
  | nil => exact absurd rfl hS
  | cons s S =>
   have e' : s = c := by injection e
   have h1 := hs s (List.mem_cons_self ..)
   have h2 := hl c (List.mem_cons_self ..)
   rw [e', h2] at h1; cases h1
 | some c :: p, k + 1, hl, hk, h => by
  obtain ⟨t', e, h⟩ := h
  simp only [lets, List.take_succ_cons, List.drop_succ_cons, List.cons_append, List.cons.injEq, true_and] at e
  subst e
  exact fits_gap' pl hS hs p k (fun x hx => hl x (List.mem_cons_of_mem _ hx)) (by simpa [lets] using hk) h
 | none :: p, 0, hl, hk, h => rfl
 | none :: p, k + 1, hl, hk, h => by
  obtain ⟨u, t', e, h⟩ := h
  have hl' : ∀ c ∈ lets p, pl c = true := hl
  have hk' : k + 1 ≤ (lets p).length := hk
  cases u with
  | nil =>
   refine fits_gap' pl hS hs p (k + 1) hl' hk' ?_
   replace e : (lets p).take (k + 1) ++ (S ++ (lets p).drop (k + 1)) = t' := e
   rw [e]; exact h
  | cons x u =>
   exfalso
   replace e : (lets p).take (k + 1) ++ (S ++ (lets p).drop (k + 1)) = (x :: u) ++ t' := e
   have h1 := fits_len pl p t' hl' h
   have h2 := congrArg (fun l => (l.filter pl).length) e
   simp only [List.filter_append, List.length_append] at h2
   have h3 : S.filter pl = [] := List.filter_eq_nil_iff.mpr fun a ha => by rw [hs a ha]; simp
   have h4 : (((lets p).take (k + 1)).filter pl).length + (((lets p).drop (k + 1)).filter pl).length = (lets p).length := by
    rw [← List.length_append, ← List.filter_append, List.take_append_drop, List.filter_eq_self.mpr hl']
   have h5 : pl x = true := by
    cases hq : lets p with
    | nil => rw [hq] at hk'; simp at hk'
    | cons y q =>
     rw [hq] at e hl'
     simp only [List.take_succ_cons, List.cons_append] at e
     injection e with e1 _
     rw [← e1]; exact hl' y (List.mem_cons_self ..)
   rw [h3, List.filter_cons_of_pos h5] at h2
   simp only [List.length_nil, List.length_cons] at h2
   lia
theorem fits_gap (pl : Nat → Bool) {S : List Nat} (hS : S ≠ []) (hs : ∀ c ∈ S, pl c = false) (p : List Tok) (k : Nat) (hl : ∀ c ∈ lets p, pl c = true) (hk : k ≤ (lets p).length) :
  FitsT p ((lets p).take k ++ (S ++ (lets p).drop k)) ↔ gapAt p k = true := ⟨fits_gap' pl hS hs p k hl hk, gap_fits S p k⟩
theorem fits_snoc_sign (c : Nat) : ∀ (p : List Tok) (t : List Nat), FitsT p t → FitsT (p ++ [some c]) (t ++ [c])
 | [], t, h => by
  replace h : t = [] := h
  subst h; exact ⟨[], rfl, rfl⟩
 | some d :: p, t, hh => by
  obtain ⟨t', e, h⟩ := hh
  subst e; exact ⟨t' ++ [c], rfl, fits_snoc_sign c p t' h⟩
 | none :: p, t, hh => by
  refine cps fun PP kk => ?_
  obtain ⟨u, t', e, h⟩ := hh
  refine kk ?_
  clear kk PP
  subst e; exact ⟨u, t' ++ [c], by simp, fits_snoc_sign c p t' h⟩
theorem fits_snoc_gap (v : List Nat) : ∀ (p : List Tok) (t : List Nat), FitsT p t → FitsT (p ++ [none]) (t ++ v)
 | [], t, h => by
  replace h : t = [] := h
  subst h; exact ⟨v, [], by simp, rfl⟩
 | some d :: p, t, hh => by
  obtain ⟨t', e, h⟩ := hh
  subst e; exact ⟨t' ++ v, rfl, fits_snoc_gap v p t' h⟩
 | none :: p, t, hh => by
  refine cps fun PP kk => ?_
  obtain ⟨u, t', e, h⟩ := hh
  refine kk ?_
  clear kk PP
  subst e; exact ⟨u, t' ++ v, by simp, fits_snoc_gap v p t' h⟩
theorem Al.map {c c' : Nat → Nat → Nat} (g : Nat → Nat) {a b : List Nat} {n : Nat} (h : Al c a b n) (hg : ∀ x ∈ a, ∀ y ∈ b, c' (g x) (g y) = c x y) : Al c' (a.map g) (b.map g) n := by
 induction h with
 | nil => exact .nil
 | del x z1 ih => exact .del _ (ih fun u hu v hv => hg u (List.mem_cons_of_mem _ hu) v hv)
 | ins y z1 ih => exact .ins _ (ih fun u hu v hv => hg u hu v (List.mem_cons_of_mem _ hv))
 | sub x y z1 ih =>
  have := Al.sub (c := c') (g x) (g y) (ih fun u hu v hv => hg u (List.mem_cons_of_mem _ hu) v (List.mem_cons_of_mem _ hv))
  rw [hg x (List.mem_cons_self ..) y (List.mem_cons_self ..)] at this
  exact this
theorem map_back {f g : Nat → Nat} : ∀ {a : List Nat}, (∀ x ∈ a, g (f x) = x) → (a.map f).map g = a
 | [], z1 => rfl
 | x :: a, h => by
  show g (f x) :: (a.map f).map g = _
  rw [h x (List.mem_cons_self ..), map_back fun y hy => h y (List.mem_cons_of_mem _ hy)]
theorem Dist.map {c c' : Nat → Nat → Nat} (f g : Nat → Nat) {a b : List Nat} {d : Nat} (h : Dist c a b d) (ha : ∀ x ∈ a, g (f x) = x) (hb : ∀ x ∈ b, g (f x) = x) (hg : ∀ x ∈ a, ∀ y ∈ b, c' (f x) (f y) = c x y) :
  Dist c' (a.map f) (b.map f) d := by
 refine ⟨h.1.map f hg, fun n hn => h.2 n ?_⟩
 have := hn.map (c' := c) g (by
  intro x hx y hy
  obtain ⟨u, hu, rfl⟩ := List.mem_map.mp hx
  obtain ⟨v, hv, rfl⟩ := List.mem_map.mp hy
  rw [ha u hu, hb v hv, hg u hu v hv])
 rwa [map_back ha, map_back hb] at this
theorem prefix_map {f : Nat → Nat} : ∀ (w s : List Nat), (∀ x ∈ w, ∀ y ∈ s, f x = f y → x = y) → List.isPrefixOf (w.map f) (s.map f) = List.isPrefixOf w s
 | [], s, h => by simp
 | x :: w, [], h => by simp
 | x :: w, y :: s, h => by
  have ih := prefix_map w s fun a ha b hb => h a (List.mem_cons_of_mem _ ha) b (List.mem_cons_of_mem _ hb)
  simp only [List.map_cons, List.isPrefixOf, ih]
  congr 1
  by_cases e : x = y
  ·subst e; simp
  ·have : f x ≠ f y := fun q => e (h x (List.mem_cons_self ..) y (List.mem_cons_self ..) q)
   rw [beq_eq_false_iff_ne.mpr this, beq_eq_false_iff_ne.mpr e]
theorem splitGo_map {f : Nat → Nat} (w : List Nat) : ∀ (n : Nat) (cur s : List Nat), (∀ x ∈ w, ∀ y ∈ s, f x = f y → x = y) → splitGo (w.map f) n (cur.map f) (s.map f) = (splitGo w n cur s).map (List.map f)
 | 0, cur, s, h => by simp [splitGo]
 | n + 1, cur, [], h => by simp [splitGo]
 | n + 1, cur, x :: s, h => by
  have e := prefix_map w (x :: s) h
  simp only [List.map_cons] at e
  simp only [splitGo, List.map_cons, e]
  by_cases hp : List.isPrefixOf w (x :: s) = true
  ·rw [if_pos hp, if_pos hp]
   have := splitGo_map w n [] ((x :: s).drop w.length) fun a ha b hb => h a ha b (List.mem_of_mem_drop hb)
   rw [List.map_drop, List.map_nil, List.map_cons] at this
   rw [List.length_map, List.map_cons, this, List.map_reverse]
  ·rw [if_neg hp, if_neg hp]
   exact splitGo_map w n (x :: cur) s fun a ha b hb => h a ha b (List.mem_cons_of_mem _ hb)
theorem split_map {f : Nat → Nat} (s w : List Nat) (h : ∀ x ∈ w, ∀ y ∈ s, f x = f y → x = y) : splitL (s.map f) (w.map f) = (splitL s w).map (List.map f) := by
 unfold splitL
 rw [List.length_map]
 exact splitGo_map w _ [] s h
theorem inter_map {f : Nat → Nat} (n : List Nat) (l : List (List Nat)) : (n.map f).intercalate (l.map (List.map f)) = (n.intercalate l).map f := by
 have h : ∀ l : List (List Nat), (List.intersperse (n.map f) (l.map (List.map f))) = (List.intersperse n l).map (List.map f) := by
  intro l
  induction l with
  | nil => rfl
  | cons a l ih =>
   cases l with
   | nil => rfl
   | cons b l =>
    simp only [List.map_cons, List.intersperse] at ih ⊢
    rw [ih]
 unfold List.intercalate
 rw [h, List.map_flatten]
theorem repl_map {f : Nat → Nat} (s o n : List Nat) (h : ∀ x ∈ o, ∀ y ∈ s, f x = f y → x = y) : replL (s.map f) (o.map f) (n.map f) = (replL s o n).map f := by
 unfold replL
 rw [split_map s o h, inter_map]
theorem count_go (w : Nat) : ∀ (n : Nat) (cur s : List Nat), s.length < n → (splitGo [w] n cur s).length = s.count w + 1
 | 0, cur, s, h => absurd h (Nat.not_lt_zero _)
 | n + 1, cur, [], h => by simp [splitGo]
 | n + 1, cur, x :: s, h => by
  simp only [splitGo, List.isPrefixOf, Bool.and_true]
  by_cases e : w = x
  ·subst e
   simp only [beq_self_eq_true, if_true, List.length_cons, List.length_nil, List.drop_succ_cons, List.drop_zero, List.count_cons_self]
   rw [count_go w n [] s (by simpa using h)]
  ·rw [if_neg (by simpa using e), count_go w n (x :: cur) s (by simpa using h), List.count_cons_of_ne (fun q => e q.symm)]
theorem count_sign (s : List Nat) (w : Nat) : countStr s [w] = s.count w := by
 unfold countStr splitL
 rw [count_go w _ [] s (Nat.lt_succ_self _)]; rfl
end Rs.Internal.M
end
section
set_option tactic.hygienic false
namespace Rs.Internal.M
open PySem
structure PrepOk (G : Gl) : Prop where
 hid : ∀ k < 27, G.b1 (hidC k) = true
 sign : ∀ p < 26, ∀ f < 30, prepC G (letC p f) = [97 + p]
 dot : prepC G 46 = [46]
 b3 : ∀ i t, G.b3 i = some t → t.length ≤ 10
theorem prepL_app (G : Gl) (a b : List Nat) : prepL G (a ++ b) = prepL G a ++ prepL G b := by simp [prepL]
theorem prepL_one (G : Gl) (x : Nat) : prepL G [x] = prepC G x := by simp [prepL]
theorem prepL_hid {G : Gl} (h : PrepOk G) {k : Nat} (hk : k < 27) : prepL G [hidC k] = [] := by
 rw [prepL_one, prepC, if_pos (h.hid k hk)]
theorem prepL_let {G : Gl} (h : PrepOk G) {p f : Nat} (hp : p < 26) (hf : f < 30) : prepL G [letC p f] = [97 + p] := by
 rw [prepL_one, h.sign p hp f hf]
theorem prepL_dot {G : Gl} (h : PrepOk G) : prepL G [46] = [46] := by rw [prepL_one, h.dot]
theorem fmod_ex (x : Int) {n : Nat} (hn : 0 < n) : ∃ k : Nat, k < n ∧ x.fmod n = k := by
 refine ⟨(x.fmod n).toNat, ?_, ?_⟩
 ·have h1 := Int.fmod_nonneg_of_pos x (show (0 : Int) < n by lia)
  have h2 := Int.fmod_lt_of_pos x (show (0 : Int) < n by lia)
  lia
 ·have h1 := Int.fmod_nonneg_of_pos x (show (0 : Int) < n by lia)
  lia
theorem mod_bin (x : Int) {n : Int} (h : n ≠ 0) : binP .Mod (.int x) (.int n) = some (.int (x.fmod n)) := by
 have : decide (n ≠ 0) = true := by simpa using h
 simp only [bAI, bAS, bAL, bSub, bMI, bMS, bFD, bMod, this, if_true]
theorem div_bin (x : Int) {n : Int} (h : n ≠ 0) (h' : small n = true) : binP .FloorDiv (.int x) (.int n) = some (.int (x.fdiv n)) := by
 have : decide (n ≠ 0) = true := by simpa using h
 simp only [bAI, bAS, bAL, bSub, bMI, bMS, bFD, bMod, this, h', Bool.and_self, if_true]
section
variable {G : Gl} {φ : Nat → List PV → Option PV} {F : Nat} {σ : Store}
theorem ev_cat {a b : X} {u v : List Nat} (ha : evX G φ a σ = some (.str u)) (hb : evX G φ b σ = some (.str v)) (h : u.length + v.length ≤ 1000000) : evX G φ (.bin .Add a b) σ = some (.str (u ++ v)) :=
 ev_bin ha hb (by simp only [bAI, bAS, bAL, bSub, bMI, bMS, bFD, bMod, fitL_le (show u.length + v.length ≤ 1048576 by lia), if_true])
theorem s_cat {i : Nat} {e : X} {u v : List Nat} (hp : getS σ i = .val (.str u)) (h : evX G φ e σ = some (.str v)) (hl : u.length + v.length ≤ 1000000) : exS G φ F (.aug [] i .Add e) σ = some (.nx, setS σ i (.str (u ++ v))) :=
 s_aug (fr := []) hp h (by simp only [aSub, aS, fitL_le (show u.length + v.length ≤ 1048576 by lia), if_true])
theorem ev_rep {a b : X} {u : List Nat} {n : Nat} (ha : evX G φ a σ = some (.str u)) (hb : evX G φ b σ = some (.int n)) (hl : u.length * n ≤ 1000000) (hn : n ≤ 1000000) : evX G φ (.bin .Mult a b) σ = some (.str (mulStr u n)) :=
 ev_bin ha hb (by
  have h0 : decide ((0 : Int) ≤ (n : Int)) = true := by simp
  simp only [bAI, bAS, bAL, bSub, bMI, bMS, bFD, bMod, Int.toNat_natCast, h0, fitL_le (show u.length * n ≤ 1048576 by lia), fitL_le (show n ≤ 1048576 by lia), Bool.and_self, if_true])
theorem ev_count {a : X} {s : List Nat} {w : Nat} (ha : evX G φ a σ = some (.str s)) (h : s.length ≤ 1000000) : evX G φ (.mf .count a (.cons (.const (.str [w])) .nil)) σ = some (.int (s.count w)) :=
 ev_mf ha (xs_cons (x := .str [w]) rfl xs_nil) (by simp only [mfCount, countE, fitL_le (show s.length ≤ 1048576 by lia), List.isEmpty_cons, Bool.not_false, Bool.and_self, if_true, count_sign])
theorem ev_sign {a : X} {p : Nat} (ha : evX G φ a σ = some (.int p)) (hp : p < 26) : evX G φ (.bf .chr (.cons (.bin .Add (.const (.int 97)) a) .nil)) σ = some (.str [97 + p]) :=
 ev_chr (n := 97 + p) (ev_bin (x := .int 97) (y := .int p) rfl ha (by simp only [bAI, bAS, bAL, bSub, bMI, bMS, bFD, bMod]; congr 2)) (by lia)
theorem ev_pick {a : X} {i j p q : Nat} {k : Nat} (hi : getS σ i = .val (.int p)) (hj : getS σ j = .val (.int q)) (ha : evX G φ a σ = some (.int k)) (hk : k < 2) :
  evX G φ (.idx (.list (.cons (.var i) (.cons (.var j) .nil))) a) σ = some (.int ((if k = 1 then q else p : Nat) : Int)) := by
 have h1 : evX G φ (.var i) σ = some (.int p) := by
  show (match getS σ i with | .val p => some p | _ => none) = _
  rw [hi]
 have h2 : evX G φ (.var j) σ = some (.int q) := by
  show (match getS σ j with | .val p => some p | _ => none) = _
  rw [hj]
 refine ev_idx (ev_list (q := [.int p, .int q]) (xs_cons h1 (xs_cons h2 xs_nil)) (by simp)) ha (idx_lst ?_ (by simp))
 match k, hk with
 | 0, z1 => rfl
 | 1, z1 => rfl
noncomputable def LT (sc cs : PV) (s1 : Slot) (v3 : Int) (p q : Nat) (ty wa ra go : List Nat) (x10 x11 x12 x13 x14 : Slot) : Store :=
 [.val sc, s1, .val cs, .val (.int v3), .val (.int p), .val (.int q), .val (.str ty), .val (.str wa), .val (.str ra), .val (.str go), x10, x11, x12, x13, x14, .no, .no, .no, .no, .no]
noncomputable def bGap (cL : Nat) : Ss := (.cons (.asg [] 14 (.idx (.list (.cons (.var 4) (.cons (.var 5) .nil))) (.bin .Mod (.bin .FloorDiv (.bin .FloorDiv (.var 13) (.const (.int 3))) (.bin .Pow (.const (.int 2)) (.var 1))) (.const (.int 2)))))
    (.cons (.aug [] 8 .Add (.call cL (.cons (.var 14) (.cons (.var 12) .nil))))
    (.cons (.aug [] 9 .Add (.bf .chr (.cons (.bin .Add (.const (.int 97)) (.var 14)) .nil)))
    .nil)))
theorem gap_turn (hG : PrepOk G) {cL : Nat} (hL : ∀ p f : Nat, p < 26 → f < 30 → φ cL [.int p, .int f] = some (.str [letC p f])) {sc cs : PV} {v3 r : Int} {p q form j : Nat} {ty wa ra go : List Nat} {x10 x11 x14 : Slot}
  (hp : p < 26) (hq : q < 26) (hf : form < 30) (hj : j < 3) (hra : ra.length ≤ 1000) (hgo : go.length ≤ 1000) :
  ∃ l, (l = p ∨ l = q) ∧ exSs G φ F (bGap cL) (LT sc cs (.val (.int j)) v3 p q ty wa ra go x10 x11 (.val (.int form)) (.val (.int r)) x14) =
   some (.nx, LT sc cs (.val (.int j)) v3 p q ty wa (ra ++ [letC l form]) (go ++ [97 + l]) x10 x11 (.val (.int form)) (.val (.int r)) (.val (.int l))) := by
 obtain ⟨k, hk, hk'⟩ := fmod_ex ((r.fdiv 3).fdiv (2 ^ j)) (n := 2) (by decide)
 replace hk' : ((r.fdiv 3).fdiv (2 ^ j)).fmod 2 = (k : Int) := hk'
 have hl : (if k = 1 then q else p) < 26 := by split <;> assumption
 have hlo : (if k = 1 then q else p) = p ∨ (if k = 1 then q else p) = q := by split <;> simp
 generalize hle : (if k = 1 then q else p) = l at hl hlo
 refine ⟨l, hlo, ?_⟩
 unfold bGap
 have e1 : evX G φ (.bin .Mod (.bin .FloorDiv (.bin .FloorDiv (.var 13) (.const (.int 3))) (.bin .Pow (.const (.int 2)) (.var 1))) (.const (.int 2))) (LT sc cs (.val (.int j)) v3 p q ty wa ra go x10 x11 (.val (.int form)) (.val (.int r)) x14) = some (.int k) := by
  refine ev_bin (x := .int ((r.fdiv 3).fdiv (2 ^ j))) (y := .int 2) ?_ rfl ?_
  ·refine ev_bin (x := .int (r.fdiv 3)) (y := .int (2 ^ j)) rfl ?_ ?_
   ·match j, hj with
    | 0, z1 => rfl
    | 1, z1 => rfl
    | 2, z1 => rfl
   ·match j, hj with
    | 0, z1 => rfl
    | 1, z1 => rfl
    | 2, z1 => rfl
  ·rw [mod_bin _ (by decide), hk']
 have e2 := ev_pick (G := G) (φ := φ) (i := 4) (j := 5) (p := p) (q := q) rfl rfl e1 hk
 rw [hle] at e2
 refine (ss_cons (σ' := LT sc cs (.val (.int j)) v3 p q ty wa ra go x10 x11 (.val (.int form)) (.val (.int r)) (.val (.int l))) (s_asg0 e2)).trans ?_
 have e3 : evX G φ (.call cL (.cons (.var 14) (.cons (.var 12) .nil))) (LT sc cs (.val (.int j)) v3 p q ty wa ra go x10 x11 (.val (.int form)) (.val (.int r)) (.val (.int l))) = some (.str [letC l form]) :=
  ev_call (xs_cons (x := .int l) rfl (xs_cons (x := .int form) rfl xs_nil)) (hL l form hl hf)
 rw [ss_cons (σ' := LT sc cs (.val (.int j)) v3 p q ty wa (ra ++ [letC l form]) go x10 x11 (.val (.int form)) (.val (.int r)) (.val (.int l))) (s_cat (i := 8) (u := ra) rfl e3 (by simp; lia))]
 refine (ss_cons (σ' := LT sc cs (.val (.int j)) v3 p q ty wa (ra ++ [letC l form]) (go ++ [97 + l]) x10 x11 (.val (.int form)) (.val (.int r)) (.val (.int l))) (s_cat (i := 9) (e := .bf .chr (.cons (.bin .Add (.const (.int 97)) (.var 14)) .nil)) (u := go) rfl (ev_sign (a := .var 14) (p := l) rfl hl) (by simp; lia))).trans ?_
 rfl
theorem gap_loop (hG : PrepOk G) {cL : Nat} (hL : ∀ p f : Nat, p < 26 → f < 30 → φ cL [.int p, .int f] = some (.str [letC p f])) {sc cs : PV} {v3 r : Int} {p q form : Nat} {ty wa : List Nat} {x10 x11 : Slot}
  (hp : p < 26) (hq : q < 26) (hf : form < 30) : ∀ (vs : List Nat) (ra go : List Nat) (s1 x14 : Slot), (∀ j ∈ vs, j < 3) → ra.length + vs.length ≤ 1000 → go.length + vs.length ≤ 1000 →
  ∃ u v s1' x14', prepL G u = v ∧ (∀ c ∈ v, c = 97 + p ∨ c = 97 + q) ∧ u.length = vs.length ∧ v.length = vs.length ∧
   forLoop true [1] (fun σ => exSs G φ F (bGap cL) σ) (intsV vs) (LT sc cs s1 v3 p q ty wa ra go x10 x11 (.val (.int form)) (.val (.int r)) x14) =
    some (.nx, LT sc cs s1' v3 p q ty wa (ra ++ u) (go ++ v) x10 x11 (.val (.int form)) (.val (.int r)) x14')
 | [], ra, go, s1, x14, z1, z2, z3 => ⟨[], [], s1, x14, rfl, by simp, rfl, rfl, by simp [forLoop, intsV]⟩
 | j :: vs, ra, go, s1, x14, hj, h1, h2 => by
  simp only [List.length_cons] at h1 h2
  obtain ⟨l, hl, e⟩ := gap_turn (F := F) hG hL (sc := sc) (cs := cs) (v3 := v3) (r := r) (ty := ty) (wa := wa) (ra := ra) (go := go) (x10 := x10) (x11 := x11) (x14 := x14) hp hq hf (hj j (List.mem_cons_self ..)) (by lia) (by lia)
  have hl26 : l < 26 := by rcases hl with rfl | rfl <;> assumption
  obtain ⟨u, v, s1', x14', a1, a2, a3, a4, a5⟩ := gap_loop hG hL hp hq hf vs (ra ++ [letC l form]) (go ++ [97 + l]) (.val (.int j)) (.val (.int l)) (fun i hi => hj i (List.mem_cons_of_mem _ hi)) (by simp; lia) (by simp; lia)
  refine ⟨letC l form :: u, (97 + l) :: v, s1', x14', ?_, ?_, by simp [a3], by simp [a4], ?_⟩
  ·show prepL G ([letC l form] ++ u) = _
   rw [prepL_app, prepL_let hG hl26 hf, a1]; rfl
  ·intro c hc
   rcases List.mem_cons.mp hc with rfl | hc
   ·rcases hl with rfl | rfl
    ·exact .inl rfl
    ·exact .inr rfl
   ·exact a2 c hc
  ·show forLoop true [1] _ (PV.int j :: intsV vs) _ = _
   rw [for_cons (σ₁ := LT sc cs (.val (.int j)) v3 p q ty wa ra go x10 x11 (.val (.int form)) (.val (.int r)) x14) rfl e, a5]
   simp
end
end Rs.Internal.M
end
section
set_option tactic.hygienic false
namespace Rs.Internal.M
open PySem
noncomputable def wA : List (Option Bool) → List Nat
 | [] => []
 | none :: r => 46 :: 46 :: 46 :: wA r
 | some b :: r => (if b then 2 else 1) :: wA r
noncomputable def fS (P Q x : Nat) : Nat := if x = 1 then P else if x = 2 then Q else x
noncomputable def lift (P Q : Nat) : Option Bool → Tok
 | none => none
 | some b => some (if b then Q else P)
theorem wA_app : ∀ a b : List (Option Bool), wA (a ++ b) = wA a ++ wA b
 | [], b => rfl
 | none :: a, b => by simp [wA, wA_app a b]
 | some c :: a, b => by simp [wA, wA_app a b]
theorem fS_dot (P Q : Nat) : fS P Q 46 = 46 := rfl
theorem w_gap (P Q : Nat) (ts : List (Option Bool)) : (wA (ts ++ [none])).map (fS P Q) = (wA ts).map (fS P Q) ++ dots3 := by
 rw [wA_app, List.map_append]; rfl
theorem w_let (P Q : Nat) (ts : List (Option Bool)) (b : Bool) : (wA (ts ++ [some b])).map (fS P Q) = (wA ts).map (fS P Q) ++ [if b then Q else P] := by
 rw [wA_app, List.map_append]
 cases b <;> rfl
theorem w_count {P Q : Nat} (hP : P ≠ 46) (hQ : Q ≠ 46) : ∀ ts : List (Option Bool), ((wA ts).map (fS P Q)).count 46 = 3 * ts.count none
 | [] => rfl
 | none :: r => by
  have ih := w_count hP hQ r
  simp only [wA, List.map_cons, fS_dot, List.count_cons_self, ih]; lia
 | some b :: r => by
  have ih := w_count hP hQ r
  have h1 : (some b : Option Bool) ≠ none := by simp
  rw [List.count_cons_of_ne h1]
  cases b with
  | true => simp only [wA, if_true, List.map_cons]; rw [List.count_cons_of_ne (by exact hQ), ih]
  | false => simp only [wA, Bool.false_eq_true, if_false, List.map_cons]; rw [List.count_cons_of_ne (by exact hP), ih]
theorem w_len : ∀ ts : List (Option Bool), (wA ts).length ≤ 3 * ts.length
 | [] => Nat.le_refl _
 | none :: r => by have := w_len r; simp only [wA, List.length_cons]; lia
 | some b :: r => by have := w_len r; simp only [wA, List.length_cons]; lia
theorem w_toks {P Q : Nat} (hP : P ≠ 46) (hQ : Q ≠ 46) : ∀ ts : List (Option Bool), toks ((wA ts).map (fS P Q)) = ts.map (lift P Q)
 | [] => rfl
 | none :: r => by
  show toks (46 :: 46 :: 46 :: (wA r).map (fS P Q)) = _
  rw [toks_dots, w_toks hP hQ r]; rfl
 | some b :: r => by
  have e : (wA (some b :: r)).map (fS P Q) = (if b then Q else P) :: (wA r).map (fS P Q) := by cases b <;> rfl
  rw [e, toks_other (by
   rintro ⟨q, h⟩
   injection h with h _
   cases b
   ·exact hP h
   ·exact hQ h), w_toks hP hQ r]; rfl
noncomputable def Inv (G : Gl) (p q i : Nat) (ty wa ra go : List Nat) : Prop :=
 ∃ ts : List (Option Bool), ts.length ≤ i ∧ ts.count none ≤ 3 ∧ wa = (wA ts).map (fS (97 + p) (97 + q)) ∧ prepL G ty = wa ∧ prepL G ra = go ∧
  FitsT (ts.map (lift (97 + p) (97 + q))) go ∧ (∀ c ∈ go, c = 97 + p ∨ c = 97 + q) ∧ go.length ≤ 3 * i ∧ ty.length ≤ 10 * i ∧ ra.length ≤ 10 * i
section
variable {G : Gl} {φ : Nat → List PV → Option PV} {F : Nat} {σ : Store}
noncomputable def cGap : X := (.andX (.cmp .Eq (.bin .Mod (.var 10) (.const (.int 3))) (.const (.int 0))) (.cmp .Lt (.mf .count (.var 7) (.cons (.const (.str [46])) .nil)) (.const (.int 9))))
noncomputable def tGap (cL : Nat) : Ss := (.cons (.aug [] 6 .Add (.idx (.list (.cons (.const (.str [46, 46, 46])) (.cons (.bin .Add (.bin .Add (.const (.str [46])) (.var 11)) (.const (.str [46, 46]))) (.cons (.bin .Add (.bin .Add (.const (.str [46, 46])) (.var 11)) (.const (.str [46]))) .nil)))) (.bin .Mod (.var 12) (.const (.int 3)))))
   (.cons (.aug [] 7 .Add (.const (.str [46, 46, 46])))
   (.cons (.forS [] [1] true (.val (.bf .range1 (.cons (.bin .Mod (.var 13) (.const (.int 3))) .nil))) (bGap cL))
   .nil)))
noncomputable def cLet : X := (.andX (.cmp .Gt (.bin .Mod (.var 10) (.const (.int 3))) (.const (.int 0))) (.cmp .Lt (.bin .Sub (.bf .len (.cons (.var 7) .nil)) (.mf .count (.var 7) (.cons (.const (.str [46])) .nil))) (.const (.int 4))))
noncomputable def tLet (cL : Nat) : Ss := (.cons (.asg [] 14 (.idx (.list (.cons (.var 4) (.cons (.var 5) .nil))) (.bin .Sub (.bin .Mod (.var 10) (.const (.int 3))) (.const (.int 1)))))
   (.cons (.aug [] 6 .Add (.bin .Add (.call cL (.cons (.var 14) (.cons (.var 12) .nil))) (.bin .Mult (.var 11) (.bin .Mod (.var 13) (.const (.int 2))))))
   (.cons (.aug [] 7 .Add (.bf .chr (.cons (.bin .Add (.const (.int 97)) (.var 14)) .nil)))
   (.cons (.aug [] 8 .Add (.call cL (.cons (.var 14) (.cons (.bin .Mod (.bin .FloorDiv (.var 13) (.const (.int 2))) (.const (.int 30))) .nil))))
   (.cons (.aug [] 9 .Add (.bf .chr (.cons (.bin .Add (.const (.int 97)) (.var 14)) .nil)))
   .nil)))))
noncomputable def bCell (cH cL : Nat) : Ss :=
 (.cons (.asgP [] [(11, false), (12, false), (13, false)] (.cons (.call cH (.cons (.bin .Mod (.bin .FloorDiv (.var 10) (.const (.int 3))) (.const (.int 27))) .nil)) (.cons (.bin .Mod (.bin .FloorDiv (.var 10) (.const (.int 81))) (.const (.int 30))) (.cons (.bin .FloorDiv (.var 10) (.const (.int 2430))) .nil))))
  (.cons (.ifS [] cGap (tGap cL) .nil)
  (.cons (.ifS [] cLet (tLet cL) .nil)
  .nil)))
theorem gap_cell (hG : PrepOk G) {cL : Nat} (hL : ∀ p f : Nat, p < 26 → f < 30 → φ cL [.int p, .int f] = some (.str [letC p f])) {sc cs : PV} {s1 x10 x14 : Slot} {v3 r : Int} {p q i h form : Nat} {ty wa ra go : List Nat}
  (hp : p < 26) (hq : q < 26) (hf : form < 30) (hh : h < 27) (hi : i ≤ 20) (hI : Inv G p q i ty wa ra go) (hc : wa.count 46 < 9) :
  ∃ s1' x14' ty' wa' ra' go', Inv G p q (i + 1) ty' wa' ra' go' ∧ exSs G φ F (tGap cL) (LT sc cs s1 v3 p q ty wa ra go x10 (.val (.str [hidC h])) (.val (.int form)) (.val (.int r)) x14) =
   some (.nx, LT sc cs s1' v3 p q ty' wa' ra' go' x10 (.val (.str [hidC h])) (.val (.int form)) (.val (.int r)) x14') := by
 obtain ⟨ts, b1, b2, b3, b4, b5, b6, b7, b8, b9, b10⟩ := hI
 have hP : 97 + p ≠ 46 := by lia
 have hQ : 97 + q ≠ 46 := by lia
 obtain ⟨n, hn, hn'⟩ := fmod_ex r (n := 3) (by decide)
 replace hn' : r.fmod 3 = (n : Int) := hn'
 have wl : wa.length ≤ 3 * i := by
  rw [b3, List.length_map]
  have := w_len ts
  lia
 let tl : List (List Nat) := [dots3, ([46] ++ [hidC h]) ++ [46, 46], ([46, 46] ++ [hidC h]) ++ [46]]
 have htl : ∀ t ∈ tl, prepL G t = dots3 ∧ t.length ≤ 4 := by
  have hd : prepL G [46, 46] = [46, 46] := by
   show prepL G ([46] ++ [46]) = _
   rw [prepL_app, prepL_dot hG]; rfl
  intro t ht
  replace ht : t = dots3 ∨ t = ([46] ++ [hidC h]) ++ [46, 46] ∨ t = ([46, 46] ++ [hidC h]) ++ [46] := by simpa [tl] using ht
  rcases ht with rfl | rfl | rfl
  ·refine ⟨?_, by decide⟩
   show prepL G ([46, 46] ++ [46]) = _
   rw [prepL_app, hd, prepL_dot hG]; rfl
  ·refine ⟨?_, by simp⟩
   rw [prepL_app, prepL_app, prepL_dot hG, prepL_hid hG hh, hd]; rfl
  ·refine ⟨?_, by simp⟩
   rw [prepL_app, prepL_app, prepL_dot hG, prepL_hid hG hh, hd]; rfl
 have hfm : form % 3 < tl.length := Nat.mod_lt _ (by decide)
 obtain ⟨t, ht, hte⟩ : ∃ t ∈ tl, tl[form % 3]? = some t := ⟨tl[form % 3], List.getElem_mem _, List.getElem?_eq_getElem hfm⟩
 obtain ⟨t1, t2⟩ := htl t ht
 have e1 : evX G φ (.idx (.list (.cons (.const (.str [46, 46, 46])) (.cons (.bin .Add (.bin .Add (.const (.str [46])) (.var 11)) (.const (.str [46, 46]))) (.cons (.bin .Add (.bin .Add (.const (.str [46, 46])) (.var 11)) (.const (.str [46]))) .nil)))) (.bin .Mod (.var 12) (.const (.int 3))))
   (LT sc cs s1 v3 p q ty wa ra go x10 (.val (.str [hidC h])) (.val (.int form)) (.val (.int r)) x14) = some (.str t) := by
  refine ev_idx (y := .int ((form % 3 : Nat) : Int)) (ev_list (q := strsV tl) (xs_cons rfl (xs_cons (ev_cat (ev_cat rfl rfl (by simp)) rfl (by simp)) (xs_cons (ev_cat (ev_cat rfl rfl (by simp)) rfl (by simp)) xs_nil))) (by simp [tl])) ?_ ?_
  ·exact ev_bin (x := .int form) (y := .int 3) rfl rfl (by rw [mod_bin _ (by decide), show (3 : Int) = ((3 : Nat) : Int) from rfl, fmod_nat])
  ·refine idx_lst ?_ (by simp [tl])
   rw [List.getElem?_map, hte]; rfl
 unfold tGap
 rw [ss_cons (σ' := LT sc cs s1 v3 p q (ty ++ t) wa ra go x10 (.val (.str [hidC h])) (.val (.int form)) (.val (.int r)) x14) (s_cat (i := 6) (u := ty) rfl e1 (by lia))]
 rw [ss_cons (σ' := LT sc cs s1 v3 p q (ty ++ t) (wa ++ dots3) ra go x10 (.val (.str [hidC h])) (.val (.int form)) (.val (.int r)) x14) (s_cat (i := 7) (u := wa) (v := dots3) rfl rfl (by simp; lia))]
 obtain ⟨u, v, s1', x14', a1, a2, a3, a4, a5⟩ := gap_loop (F := F) hG hL (sc := sc) (cs := cs) (v3 := v3) (r := r) (ty := ty ++ t) (wa := wa ++ dots3) (x10 := x10) (x11 := .val (.str [hidC h])) hp hq hf (List.range' 0 n) ra go s1 x14
  (fun j hj => by have := List.mem_range'_1.mp hj; lia) (by simp; lia) (by simp; lia)
 have it : evIt G φ (.val (.bf .range1 (.cons (.bin .Mod (.var 13) (.const (.int 3))) .nil))) (LT sc cs s1 v3 p q (ty ++ t) (wa ++ dots3) ra go x10 (.val (.str [hidC h])) (.val (.int form)) (.val (.int r)) x14) = some (intsV (List.range' 0 n)) :=
  it_range (ev_bin (x := .int r) (y := .int 3) rfl rfl (by rw [mod_bin _ (by decide), hn'])) (by lia)
 refine ⟨s1', x14', ty ++ t, wa ++ dots3, ra ++ u, go ++ v, ⟨ts ++ [none], ?_, ?_, ?_, ?_, ?_, ?_, ?_, ?_, ?_, ?_⟩, ?_⟩
 ·simp; lia
 ·rw [b3, w_count hP hQ] at hc
  rw [List.count_append]; simp; lia
 ·rw [w_gap, b3]
 ·rw [prepL_app, b4, t1]
 ·rw [prepL_app, b5, a1]
 ·rw [List.map_append]; exact fits_snoc_gap v _ _ b6
 ·intro c hc'
  rcases List.mem_append.mp hc' with h1 | h1
  ·exact b7 c h1
  ·exact a2 c h1
 ·simp at a4 ⊢; lia
 ·simp; lia
 ·simp at a3 ⊢; lia
 ·refine (ss_cons ((s_for (fr := []) it).trans a5)).trans ?_
  rfl
theorem let_cell (hG : PrepOk G) {cL : Nat} (hL : ∀ p f : Nat, p < 26 → f < 30 → φ cL [.int p, .int f] = some (.str [letC p f])) {sc cs : PV} {s1 x14 : Slot} {v3 r x : Int} {p q i h form k : Nat} {ty wa ra go : List Nat}
  (hp : p < 26) (hq : q < 26) (hf : form < 30) (hh : h < 27) (hi : i ≤ 20) (hI : Inv G p q i ty wa ra go) (hx : x.fmod 3 = (k + 1 : Nat)) (hk : k < 2) :
  ∃ x14' ty' wa' ra' go', Inv G p q (i + 1) ty' wa' ra' go' ∧ exSs G φ F (tLet cL) (LT sc cs s1 v3 p q ty wa ra go (.val (.int x)) (.val (.str [hidC h])) (.val (.int form)) (.val (.int r)) x14) =
   some (.nx, LT sc cs s1 v3 p q ty' wa' ra' go' (.val (.int x)) (.val (.str [hidC h])) (.val (.int form)) (.val (.int r)) x14') := by
 refine cps fun PP kk => ?_
 obtain ⟨ts, b1, b2, b3, b4, b5, b6, b7, b8, b9, b10⟩ := hI
 refine kk ?_
 clear kk PP
 obtain ⟨n, hn, hn'⟩ := fmod_ex r (n := 2) (by decide)
 obtain ⟨g, hg, hg'⟩ := fmod_ex (r.fdiv 2) (n := 30) (by decide)
 replace hn' : r.fmod 2 = (n : Int) := hn'
 replace hg' : (r.fdiv 2).fmod 30 = (g : Int) := hg'
 have wl : wa.length ≤ 3 * i := by
  rw [b3, List.length_map]
  have := w_len ts
  lia
 have hl : (if k = 1 then q else p) < 26 := by split <;> assumption
 have hlo : ∃ b : Bool, 97 + (if k = 1 then q else p) = if b then 97 + q else 97 + p := ⟨decide (k = 1), by by_cases e : k = 1 <;> simp [e]⟩
 generalize hle : (if k = 1 then q else p) = l at hl hlo
 obtain ⟨b, hb⟩ := hlo
 have e1 : evX G φ (.bin .Sub (.bin .Mod (.var 10) (.const (.int 3))) (.const (.int 1))) (LT sc cs s1 v3 p q ty wa ra go (.val (.int x)) (.val (.str [hidC h])) (.val (.int form)) (.val (.int r)) x14) = some (.int k) :=
  ev_bin (x := .int (k + 1 : Nat)) (y := .int 1) (ev_bin (x := .int x) (y := .int 3) rfl rfl (by rw [mod_bin _ (by decide), hx])) rfl (by simp only [bAI, bAS, bAL, bSub, bMI, bMS, bFD, bMod]; congr 2; lia)
 have e2 := ev_pick (G := G) (φ := φ) (i := 4) (j := 5) (p := p) (q := q) rfl rfl e1 hk
 rw [hle] at e2
 unfold tLet
 rw [ss_cons (σ' := LT sc cs s1 v3 p q ty wa ra go (.val (.int x)) (.val (.str [hidC h])) (.val (.int form)) (.val (.int r)) (.val (.int l))) (s_asg0 e2)]
 have hml : (mulStr [hidC h] n).length = n := by simp [mulStr]
 have e3 : evX G φ (.bin .Add (.call cL (.cons (.var 14) (.cons (.var 12) .nil))) (.bin .Mult (.var 11) (.bin .Mod (.var 13) (.const (.int 2))))) (LT sc cs s1 v3 p q ty wa ra go (.val (.int x)) (.val (.str [hidC h])) (.val (.int form)) (.val (.int r)) (.val (.int l))) =
   some (.str ([letC l form] ++ mulStr [hidC h] n)) :=
  ev_cat (ev_call (xs_cons (x := .int l) rfl (xs_cons (x := .int form) rfl xs_nil)) (hL l form hl hf)) (ev_rep (u := [hidC h]) rfl (ev_bin (x := .int r) (y := .int 2) rfl rfl (by rw [mod_bin _ (by decide), hn'])) (by simp; lia) (by lia)) (by rw [hml]; simp; lia)
 rw [ss_cons (σ' := LT sc cs s1 v3 p q (ty ++ ([letC l form] ++ mulStr [hidC h] n)) wa ra go (.val (.int x)) (.val (.str [hidC h])) (.val (.int form)) (.val (.int r)) (.val (.int l))) (s_cat (i := 6) (u := ty) rfl e3 (by rw [List.length_append, hml]; simp; lia))]
 rw [ss_cons (σ' := LT sc cs s1 v3 p q (ty ++ ([letC l form] ++ mulStr [hidC h] n)) (wa ++ [97 + l]) ra go (.val (.int x)) (.val (.str [hidC h])) (.val (.int form)) (.val (.int r)) (.val (.int l)))
  (s_cat (i := 7) (u := wa) (e := .bf .chr (.cons (.bin .Add (.const (.int 97)) (.var 14)) .nil)) rfl (ev_sign (a := .var 14) (p := l) rfl hl) (by simp; lia))]
 have e4 : evX G φ (.call cL (.cons (.var 14) (.cons (.bin .Mod (.bin .FloorDiv (.var 13) (.const (.int 2))) (.const (.int 30))) .nil))) (LT sc cs s1 v3 p q (ty ++ ([letC l form] ++ mulStr [hidC h] n)) (wa ++ [97 + l]) ra go (.val (.int x)) (.val (.str [hidC h])) (.val (.int form)) (.val (.int r)) (.val (.int l))) =
   some (.str [letC l g]) :=
  ev_call (xs_cons (x := .int l) rfl (xs_cons (x := .int g) (ev_bin (x := .int (r.fdiv 2)) (y := .int 30) (ev_bin (x := .int r) (y := .int 2) rfl rfl (div_bin _ (by decide) (by decide))) rfl (by rw [mod_bin _ (by decide), hg'])) xs_nil)) (hL l g hl hg)
 rw [ss_cons (σ' := LT sc cs s1 v3 p q (ty ++ ([letC l form] ++ mulStr [hidC h] n)) (wa ++ [97 + l]) (ra ++ [letC l g]) go (.val (.int x)) (.val (.str [hidC h])) (.val (.int form)) (.val (.int r)) (.val (.int l))) (s_cat (i := 8) (u := ra) rfl e4 (by simp; lia))]
 have hmp : prepL G (mulStr [hidC h] n) = [] := by
  match n, hn with
  | 0, z1 => rfl
  | 1, z1 => exact prepL_hid hG hh
 refine ⟨.val (.int l), ty ++ ([letC l form] ++ mulStr [hidC h] n), wa ++ [97 + l], ra ++ [letC l g], go ++ [97 + l], ⟨ts ++ [some b], ?_, ?_, ?_, ?_, ?_, ?_, ?_, ?_, ?_, ?_⟩, ?_⟩
 ·simp; lia
 ·rw [List.count_append]
  have : List.count none [some b] = 0 := by simp
  lia
 ·rw [w_let, b3, hb]
 ·rw [prepL_app, prepL_app, b4, prepL_let hG hl hf, hmp]; rfl
 ·rw [prepL_app, b5, prepL_let hG hl hg]
 ·rw [List.map_append, hb]; exact fits_snoc_sign _ _ _ b6
 ·intro c hc'
  rcases List.mem_append.mp hc' with h1 | h1
  ·exact b7 c h1
  ·have : c = 97 + l := by simpa using h1
   rw [this, hb]
   cases b
   ·exact .inl rfl
   ·exact .inr rfl
 ·simp; lia
 ·rw [List.length_append, List.length_append, hml]; simp; lia
 ·simp; lia
 ·refine (ss_cons (σ' := LT sc cs s1 v3 p q (ty ++ ([letC l form] ++ mulStr [hidC h] n)) (wa ++ [97 + l]) (ra ++ [letC l g]) (go ++ [97 + l]) (.val (.int x)) (.val (.str [hidC h])) (.val (.int form)) (.val (.int r)) (.val (.int l)))
   (s_cat (i := 9) (u := go) (e := .bf .chr (.cons (.bin .Add (.const (.int 97)) (.var 14)) .nil)) rfl (ev_sign (a := .var 14) (p := l) rfl hl) (by simp; lia))).trans ?_
  rfl
end
end Rs.Internal.M
end
section
set_option tactic.hygienic false
namespace Rs.Internal.M
open PySem
section
variable {G : Gl} {φ : Nat → List PV → Option PV} {F : Nat} {σ : Store}
theorem Inv.up {p q i : Nat} {ty wa ra go : List Nat} (h : Inv G p q i ty wa ra go) : Inv G p q (i + 1) ty wa ra go := by
 refine cps fun PP kk => ?_
 obtain ⟨ts, b1, b2, b3, b4, b5, b6, b7, b8, b9, b10⟩ := h
 refine kk ?_
 clear kk PP
 exact ⟨ts, by lia, b2, b3, b4, b5, b6, b7, by lia, by lia, by lia⟩
theorem Inv.wlen {p q i : Nat} {ty wa ra go : List Nat} (h : Inv G p q i ty wa ra go) : wa.length ≤ 3 * i := by
 refine cps fun PP kk => ?_
 obtain ⟨ts, b1, b2, b3, b4, b5, b6, b7, b8, b9, b10⟩ := h
 refine kk ?_
 clear kk PP
 rw [b3, List.length_map]
 have := w_len ts
 lia
theorem one_cell (hG : PrepOk G) {cH cL : Nat} (hH : ∀ k : Nat, k < 27 → φ cH [.int k] = some (.str [hidC k])) (hL : ∀ p f : Nat, p < 26 → f < 30 → φ cL [.int p, .int f] = some (.str [letC p f]))
  {sc cs : PV} {s1 x11 x12 x13 x14 : Slot} {v3 x : Int} {p q i : Nat} {ty wa ra go : List Nat} (hp : p < 26) (hq : q < 26) (hi : i ≤ 20) (hI : Inv G p q i ty wa ra go) :
  ∃ s1' x11' x12' x13' x14' ty' wa' ra' go', Inv G p q (i + 1) ty' wa' ra' go' ∧ exSs G φ F (bCell cH cL) (LT sc cs s1 v3 p q ty wa ra go (.val (.int x)) x11 x12 x13 x14) =
   some (.nx, LT sc cs s1' v3 p q ty' wa' ra' go' (.val (.int x)) x11' x12' x13' x14') := by
 obtain ⟨k3, hk3, ek⟩ := fmod_ex x (n := 3) (by decide)
 obtain ⟨h, hh, eh⟩ := fmod_ex (x.fdiv 3) (n := 27) (by decide)
 obtain ⟨f, hf, ef⟩ := fmod_ex (x.fdiv 81) (n := 30) (by decide)
 replace ek : x.fmod 3 = (k3 : Int) := ek
 replace eh : (x.fdiv 3).fmod 27 = (h : Int) := eh
 replace ef : (x.fdiv 81).fmod 30 = (f : Int) := ef
 have hw := hI.wlen
 unfold bCell
 have ea : evXs G φ (.cons (.call cH (.cons (.bin .Mod (.bin .FloorDiv (.var 10) (.const (.int 3))) (.const (.int 27))) .nil)) (.cons (.bin .Mod (.bin .FloorDiv (.var 10) (.const (.int 81))) (.const (.int 30))) (.cons (.bin .FloorDiv (.var 10) (.const (.int 2430))) .nil)))
   (LT sc cs s1 v3 p q ty wa ra go (.val (.int x)) x11 x12 x13 x14) = some [.str [hidC h], .int f, .int (x.fdiv 2430)] := by
  refine xs_cons (ev_call (xs_cons (x := .int h) (ev_bin (x := .int (x.fdiv 3)) (y := .int 27) (ev_bin (x := .int x) (y := .int 3) rfl rfl (div_bin _ (by decide) (by decide))) rfl (by rw [mod_bin _ (by decide), eh])) xs_nil) (hH h hh)) ?_
  refine xs_cons (ev_bin (x := .int (x.fdiv 81)) (y := .int 30) (ev_bin (x := .int x) (y := .int 81) rfl rfl (div_bin _ (by decide) (by decide))) rfl (by rw [mod_bin _ (by decide), ef])) ?_
  exact xs_cons (ev_bin (x := .int x) (y := .int 2430) rfl rfl (div_bin _ (by decide) (by decide))) xs_nil
 have em : ∀ (s1 : Slot) (ty wa ra go : List Nat) (a b c d : Slot), evX G φ (.bin .Mod (.var 10) (.const (.int 3))) (LT sc cs s1 v3 p q ty wa ra go (.val (.int x)) a b c d) = some (.int k3) :=
  fun s1 ty wa ra go a b c d => ev_bin (x := .int x) (y := .int 3) rfl rfl (by rw [mod_bin _ (by decide), ek])
 have e0 : exS G φ F (.asgP [] [(11, false), (12, false), (13, false)] (.cons (.call cH (.cons (.bin .Mod (.bin .FloorDiv (.var 10) (.const (.int 3))) (.const (.int 27))) .nil)) (.cons (.bin .Mod (.bin .FloorDiv (.var 10) (.const (.int 81))) (.const (.int 30))) (.cons (.bin .FloorDiv (.var 10) (.const (.int 2430))) .nil))))
   (LT sc cs s1 v3 p q ty wa ra go (.val (.int x)) x11 x12 x13 x14) = some (.nx, LT sc cs s1 v3 p q ty wa ra go (.val (.int x)) (.val (.str [hidC h])) (.val (.int f)) (.val (.int (x.fdiv 2430))) x14) := s_asgP (fr := []) ea rfl
 rw [ss_cons e0]
 by_cases h0 : k3 = 0
 ·subst h0
  have et : ∀ (s1 : Slot) (ty wa ra go : List Nat) (a b c d : Slot), evX G φ cLet (LT sc cs s1 v3 p q ty wa ra go (.val (.int x)) a b c d) = some (.bool false) := fun s1 ty wa ra go a b c d =>
   ev_and_f (ev_cmp (op := .Gt) (em s1 ty wa ra go a b c d) (y := .int 0) (t := false) rfl rfl) rfl
  have eg : evX G φ cGap (LT sc cs s1 v3 p q ty wa ra go (.val (.int x)) (.val (.str [hidC h])) (.val (.int f)) (.val (.int (x.fdiv 2430))) x14) = some (.bool (decide (wa.count 46 < 9))) := by
   refine (ev_and_t (ev_cmp (op := .Eq) (em s1 ty wa ra go _ _ _ _) (y := .int 0) (t := true) rfl rfl) rfl).trans ?_
   refine ev_cmp (op := .Lt) (ev_count (s := wa) rfl (by lia)) (y := .int 9) rfl ?_
   show some (decide (((wa.count 46 : Nat) : Int) < 9)) = _
   refine congrArg some (decide_eq_decide.mpr ?_)
   lia
  by_cases hc : wa.count 46 < 9
  ·obtain ⟨s1', x14', ty', wa', ra', go', i', e⟩ := gap_cell (F := F) hG hL (sc := sc) (cs := cs) (s1 := s1) (x10 := .val (.int x)) (x14 := x14) (v3 := v3) (r := x.fdiv 2430) hp hq hf hh hi hI hc
   refine ⟨s1', (.val (.str [hidC h])), (.val (.int f)), (.val (.int (x.fdiv 2430))), x14', ty', wa', ra', go', i', ?_⟩
   rw [decide_eq_true hc] at eg
   rw [ss_cons ((s_if0 (F := F) (t := tGap cL) (e := .nil) eg rfl).trans e)]
   refine (ss_cons ((s_if0 (F := F) (t := tLet cL) (e := .nil) (et s1' ty' wa' ra' go' _ _ _ _) rfl).trans (ss_nil (G := G) (φ := φ) (F := F)))).trans ?_
   rfl
  ·rw [decide_eq_false hc] at eg
   refine ⟨s1, (.val (.str [hidC h])), (.val (.int f)), (.val (.int (x.fdiv 2430))), x14, ty, wa, ra, go, hI.up, ?_⟩
   rw [ss_cons ((s_if0 (F := F) (t := tGap cL) (e := .nil) eg rfl).trans (ss_nil (G := G) (φ := φ) (F := F)))]
   refine (ss_cons ((s_if0 (F := F) (t := tLet cL) (e := .nil) (et s1 ty wa ra go _ _ _ _) rfl).trans (ss_nil (G := G) (φ := φ) (F := F)))).trans ?_
   rfl
 ·have eg : evX G φ cGap (LT sc cs s1 v3 p q ty wa ra go (.val (.int x)) (.val (.str [hidC h])) (.val (.int f)) (.val (.int (x.fdiv 2430))) x14) = some (.bool false) := by
   refine ev_and_f (ev_cmp (op := .Eq) (em s1 ty wa ra go _ _ _ _) (y := .int 0) (t := false) rfl ?_) rfl
   show some ((k3 : Int) == 0) = _
   exact congrArg some (beq_eq_false_iff_ne.mpr (by lia))
  have et : evX G φ cLet (LT sc cs s1 v3 p q ty wa ra go (.val (.int x)) (.val (.str [hidC h])) (.val (.int f)) (.val (.int (x.fdiv 2430))) x14) = some (.bool (decide ((wa.length : Int) - (wa.count 46 : Nat) < 4))) := by
   refine (ev_and_t (ev_cmp (op := .Gt) (em s1 ty wa ra go _ _ _ _) (y := .int 0) (t := true) rfl ?_) rfl).trans ?_
   ·show some (decide ((k3 : Int) > 0)) = _
    exact congrArg some (decide_eq_true (by lia))
   ·exact ev_cmp (op := .Lt) (x := .int ((wa.length : Int) - (wa.count 46 : Nat))) (y := .int 4) (ev_bin (ev_len (s := wa) rfl (by lia)) (ev_count (s := wa) rfl (by lia)) rfl) rfl rfl
  rw [ss_cons ((s_if0 (F := F) (t := tGap cL) (e := .nil) eg rfl).trans (ss_nil (G := G) (φ := φ) (F := F)))]
  cases hb : decide ((wa.length : Int) - (wa.count 46 : Nat) < 4) with
  | false =>
   rw [hb] at et
   refine ⟨s1, (.val (.str [hidC h])), (.val (.int f)), (.val (.int (x.fdiv 2430))), x14, ty, wa, ra, go, hI.up, ?_⟩
   refine (ss_cons ((s_if0 (F := F) (t := tLet cL) (e := .nil) et rfl).trans (ss_nil (G := G) (φ := φ) (F := F)))).trans ?_
   rfl
  | true =>
   rw [hb] at et
   obtain ⟨k, rfl⟩ : ∃ k, k3 = k + 1 := ⟨k3 - 1, by lia⟩
   obtain ⟨x14', ty', wa', ra', go', i', e⟩ := let_cell (F := F) hG hL (sc := sc) (cs := cs) (s1 := s1) (x14 := x14) (v3 := v3) (r := x.fdiv 2430) (x := x) hp hq hf hh hi hI ek (by lia)
   refine ⟨s1, (.val (.str [hidC h])), (.val (.int f)), (.val (.int (x.fdiv 2430))), x14', ty', wa', ra', go', i', ?_⟩
   refine (ss_cons ((s_if0 (F := F) (t := tLet cL) (e := .nil) et rfl).trans e)).trans ?_
   rfl
theorem cells_loop (hG : PrepOk G) {cH cL : Nat} (hH : ∀ k : Nat, k < 27 → φ cH [.int k] = some (.str [hidC k])) (hL : ∀ p f : Nat, p < 26 → f < 30 → φ cL [.int p, .int f] = some (.str [letC p f]))
  {sc cs : PV} {v3 : Int} {p q : Nat} (hp : p < 26) (hq : q < 26) : ∀ (xs : List Int) (i : Nat) (s1 x10 x11 x12 x13 x14 : Slot) (ty wa ra go : List Nat), i + xs.length ≤ 20 → Inv G p q i ty wa ra go →
  ∃ s1' x10' x11' x12' x13' x14' ty' wa' ra' go', Inv G p q (i + xs.length) ty' wa' ra' go' ∧ forLoop true [10] (fun σ => exSs G φ F (bCell cH cL) σ) (xs.map .int) (LT sc cs s1 v3 p q ty wa ra go x10 x11 x12 x13 x14) =
   some (.nx, LT sc cs s1' v3 p q ty' wa' ra' go' x10' x11' x12' x13' x14')
 | [], i, s1, x10, x11, x12, x13, x14, ty, wa, ra, go, z1, hI => ⟨s1, x10, x11, x12, x13, x14, ty, wa, ra, go, hI, rfl⟩
 | x :: xs, i, s1, x10, x11, x12, x13, x14, ty, wa, ra, go, hl, hI => by
  simp only [List.length_cons] at hl
  refine cps fun PP kk => ?_
  obtain ⟨s1', x11', x12', x13', x14', ty', wa', ra', go', i1, e1⟩ := one_cell (F := F) hG hH hL (sc := sc) (cs := cs) (s1 := s1) (x11 := x11) (x12 := x12) (x13 := x13) (x14 := x14) (v3 := v3) (x := x) hp hq (by lia) hI
  refine kk ?_
  clear kk PP
  refine cps fun PP kk => ?_
  obtain ⟨s2, y10, y11, y12, y13, y14, ty2, wa2, ra2, go2, i2, e2⟩ := cells_loop hG hH hL (sc := sc) (cs := cs) (v3 := v3) hp hq xs (i + 1) s1' (.val (.int x)) x11' x12' x13' x14' ty' wa' ra' go' (by lia) i1
  refine kk ?_
  clear kk PP
  refine ⟨s2, y10, y11, y12, y13, y14, ty2, wa2, ra2, go2, ?_, ?_⟩
  ·have : i + (x :: xs).length = i + 1 + xs.length := by simp only [List.length_cons]; lia
   rw [this]; exact i2
  ·rw [List.map_cons, for_cons (σ₁ := LT sc cs s1 v3 p q ty wa ra go (.val (.int x)) x11 x12 x13 x14) rfl e1, e2]
end
end Rs.Internal.M
end
section
set_option tactic.hygienic false
namespace Rs.Internal.M
open PySem
noncomputable def cutAt (t : List Nat) (i : Nat) : List Nat := t.take i ++ t.drop (i + 1)
noncomputable def placeAt (b : Bool) (n j : Nat) : Nat := if b then n - 1 - j else j
section
variable {G : Gl} {φ : Nat → List PV → Option PV} {F : Nat} {σ : Store}
theorem slc_from {s : List Nat} {i : Nat} (hi : i ≤ 100000) (h : s.length ≤ 100000) : slcP (.str s) (.int i) .none = some (.str (s.drop i)) := by
 have hs : small (i : Int) = true := small_nat (by lia)
 have hf := fitL_le (show s.length ≤ 1048576 by lia)
 rw [slcP_str (end_int hs) rfl hf]
 show some (PV.str ((s.take s.length).drop (if (i : Int) < 0 then ((i : Int) + s.length).toNat else min (i : Int).toNat s.length))) = _
 rw [if_neg (by lia), Int.toNat_natCast, List.take_length]
 refine congrArg (fun l => some (PV.str l)) ?_
 by_cases e : i ≤ s.length
 ·rw [Nat.min_eq_left e]
 ·rw [Nat.min_eq_right (by lia), List.drop_length, List.drop_eq_nil_of_le (by lia)]
theorem slc_mid {s : List Nat} {i j : Nat} (hi : i ≤ s.length) (hj : j ≤ 100000) (h : s.length ≤ 100000) : slcP (.str s) (.int i) (.int j) = some (.str ((s.take j).drop i)) := by
 have hs : small (i : Int) = true := small_nat (by lia)
 have hs' : small (j : Int) = true := small_nat (by lia)
 have hf := fitL_le (show s.length ≤ 1048576 by lia)
 rw [slcP_str (end_int hs) (end_int hs') hf]
 show some (PV.str ((s.take (if (j : Int) < 0 then ((j : Int) + s.length).toNat else min (j : Int).toNat s.length)).drop (if (i : Int) < 0 then ((i : Int) + s.length).toNat else min (i : Int).toNat s.length))) = _
 rw [if_neg (by lia), if_neg (by lia), Int.toNat_natCast, Int.toNat_natCast, Nat.min_eq_left hi]
 refine congrArg (fun l => some (PV.str (List.drop i l))) ?_
 by_cases e : j ≤ s.length
 ·rw [Nat.min_eq_left e]
 ·rw [Nat.min_eq_right (by lia), List.take_length, List.take_of_length_le (by lia)]
noncomputable def LA (want t : List Nat) (b : Bool) (j : Nat) (x4 x5 : Slot) : Store := [.val (.str want), .val (.str t), .val (.bool b), .val (.int j), x4, x5]
noncomputable def cAbove : X := (.cmp .Lt (.var 3) (.bf .len (.cons (.var 1) .nil)))
noncomputable def bAbove (cM : Nat) : Ss := (.cons (.asg [] 4 (.ite (.var 2) (.bin .Sub (.bin .Sub (.bf .len (.cons (.var 1) .nil)) (.const (.int 1))) (.var 3)) (.var 3)))
  (.cons (.asg [] 5 (.bin .Add (.slc (.var 1) (.const .none) (.var 4)) (.slc (.var 1) (.bin .Add (.var 4) (.const (.int 1))) (.const .none))))
  (.cons (.ifS [] (.call cM (.cons (.var 0) (.cons (.var 5) .nil))) (.cons (.asg [] 1 (.var 5))
   (.cons (.asg [] 3 (.const (.int 0)))
   .nil)) (.cons (.aug [] 3 .Add (.const (.int 1)))
   .nil))
  .nil)))
noncomputable def fAbove (cM : Nat) : Fn := { np := 3, ns := 6, body :=
 (.cons (.asg [] 3 (.const (.int 0)))
 (.cons (.whl cAbove (bAbove cM))
 (.cons (.ret [] (.var 1))
 .nil))) }
theorem above_turn {cM : Nat} {want t : List Nat} {b : Bool} {j : Nat} {x4 x5 : Slot} (hM : ∀ t : List Nat, t.length ≤ 1000 → φ cM [.str want, .str t] = some (.bool (matchP want t))) (ht : t.length ≤ 1000) (hj : j < t.length) :
  exSs G φ F (bAbove cM) (LA want t b j x4 x5) = some (.nx, if matchP want (cutAt t (placeAt b t.length j)) then LA want (cutAt t (placeAt b t.length j)) b 0 (.val (.int (placeAt b t.length j))) (.val (.str (cutAt t (placeAt b t.length j))))
   else LA want t b (j + 1) (.val (.int (placeAt b t.length j))) (.val (.str (cutAt t (placeAt b t.length j))))) := by
 unfold bAbove
 have hp : placeAt b t.length j < t.length := by unfold placeAt; split <;> lia
 have e1 : evX G φ (.ite (.var 2) (.bin .Sub (.bin .Sub (.bf .len (.cons (.var 1) .nil)) (.const (.int 1))) (.var 3)) (.var 3)) (LA want t b j x4 x5) = some (.int (placeAt b t.length j)) := by
  rw [ev_ite (G := G) (φ := φ) (c := .var 2) (x := .bool b) (t := b) rfl rfl]
  unfold placeAt
  cases b with
  | true =>
   rw [if_pos rfl, if_pos rfl, ev_bin (op := .Sub) (x := .int ((t.length : Int) - 1)) (y := .int j) (ev_bin (op := .Sub) (ev_len (a := .var 1) (s := t) rfl (by lia)) (y := .int 1) rfl rfl) rfl rfl]
   congr 2; lia
  | false => rfl
 generalize hk : placeAt b t.length j = k at hp e1 ⊢
 refine (ss_cons (σ' := LA want t b j (.val (.int k)) x5) (s_asg0 e1)).trans ?_
 have e2 : evX G φ (.bin .Add (.slc (.var 1) (.const .none) (.var 4)) (.slc (.var 1) (.bin .Add (.var 4) (.const (.int 1))) (.const .none))) (LA want t b j (.val (.int k)) x5) = some (.str (cutAt t k)) := by
  refine ev_cat (ev_slc (x := .str t) (y := .none) (z := .int k) rfl rfl rfl (slc_take (by lia) (by lia))) (ev_slc (x := .str t) (y := .int ((k + 1 : Nat) : Int)) (z := .none) rfl (ev_bin (x := .int k) (y := .int 1) rfl rfl rfl) rfl (slc_from (by lia) (by lia))) ?_
  rw [List.length_take, List.length_drop]; lia
 refine (ss_cons (σ' := LA want t b j (.val (.int k)) (.val (.str (cutAt t k)))) (s_asg0 e2)).trans ?_
 have hcl : (cutAt t k).length ≤ 1000 := by unfold cutAt; rw [List.length_append, List.length_take, List.length_drop]; lia
 have e3 : evX G φ (.call cM (.cons (.var 0) (.cons (.var 5) .nil))) (LA want t b j (.val (.int k)) (.val (.str (cutAt t k)))) = some (.bool (matchP want (cutAt t k))) :=
  ev_call (xs_cons (x := .str want) rfl (xs_cons (x := .str (cutAt t k)) rfl xs_nil)) (hM _ hcl)
 have e4 := s_if0 (F := F) (t := (.cons (.asg [] 1 (.var 5)) (.cons (.asg [] 3 (.const (.int 0))) .nil))) (e := (.cons (.aug [] 3 .Add (.const (.int 1))) .nil)) e3 rfl
 cases hm : matchP want (cutAt t k) with
 | true =>
  rw [hm, if_pos rfl] at e4
  rw [if_pos rfl]
  refine (ss_cons (σ' := LA want (cutAt t k) b 0 (.val (.int k)) (.val (.str (cutAt t k)))) (e4.trans ?_)).trans ?_ <;> rfl
 | false =>
  rw [hm, if_neg (by simp)] at e4
  rw [if_neg (by simp)]
  refine (ss_cons (σ' := LA want t b (j + 1) (.val (.int k)) (.val (.str (cutAt t k)))) (e4.trans ?_)).trans ?_ <;> rfl
theorem cut_len {t : List Nat} {k : Nat} (h : k < t.length) : (cutAt t k).length = t.length - 1 := by
 unfold cutAt; rw [List.length_append, List.length_take, List.length_drop]; lia
theorem above_loop {cM : Nat} {want : List Nat} {b : Bool} (hM : ∀ t : List Nat, t.length ≤ 1000 → φ cM [.str want, .str t] = some (.bool (matchP want t))) : ∀ (n : Nat) (t : List Nat) (j : Nat) (x4 x5 : Slot), FitsT (toks want) t → t.length ≤ 1000 → j ≤ t.length →
  (∀ i < j, matchP want (cutAt t (placeAt b t.length i)) = false) → t.length * (t.length + 1) + (t.length - j) < n →
  ∃ j' x4' x5', whileLoop (fun σ => (evX G φ cAbove σ).bind PV.truth) (fun σ => exSs G φ F (bAbove cM) σ) n (LA want t b j x4 x5) = some (.nx, LA want (lets (toks want)) b j' x4' x5')
 | 0, t, j, x4, x5, z1, z2, z3, z4, h => absurd h (Nat.not_lt_zero _)
 | n + 1, t, j, x4, x5, hf, ht, hj, hall, hn => by
  have hc : (evX G φ cAbove (LA want t b j x4 x5)).bind PV.truth = some (decide (j < t.length)) := by
   unfold cAbove
   rw [ev_cmp (G := G) (φ := φ) (op := .Lt) (a := .var 3) (x := .int j) (t := decide (j < t.length)) rfl (ev_len (a := .var 1) (s := t) rfl (by lia)) (by
    show some (decide ((j : Int) < (t.length : Int))) = _
    refine congrArg some (decide_eq_decide.mpr ?_); lia)]
   rfl
  by_cases hlt : j < t.length
  ·rw [decide_eq_true hlt] at hc
   have hp : placeAt b t.length j < t.length := by unfold placeAt; split <;> lia
   have e := above_turn (F := F) (G := G) (b := b) (x4 := x4) (x5 := x5) hM ht hlt
   cases hm : matchP want (cutAt t (placeAt b t.length j)) with
   | true =>
    rw [hm, if_pos rfl] at e
    rw [wh_true (cd := fun σ => (evX G φ cAbove σ).bind PV.truth) (f := fun σ => exSs G φ F (bAbove cM) σ) (σ := LA want t b j x4 x5) hc e]
    have hl := cut_len hp
    refine above_loop hM n _ 0 _ _ ((matchP_iff want _).mp hm) (by lia) (Nat.zero_le _) (fun i hi => absurd hi (Nat.not_lt_zero _)) ?_
    rw [hl]
    obtain ⟨m, hm'⟩ : ∃ m, t.length = m + 1 := ⟨t.length - 1, by lia⟩
    rw [hm'] at hn ⊢
    simp only [Nat.add_sub_cancel, Nat.sub_zero]
    have : (m + 1) * (m + 1 + 1) = m * (m + 1) + 2 * (m + 1) := by rw [← Nat.add_mul, Nat.mul_comm]
    lia
   | false =>
    rw [hm, if_neg (by simp)] at e
    rw [wh_true (cd := fun σ => (evX G φ cAbove σ).bind PV.truth) (f := fun σ => exSs G φ F (bAbove cM) σ) (σ := LA want t b j x4 x5) hc e]
    refine above_loop hM n t (j + 1) _ _ hf ht hlt ?_ (by lia)
    intro i hi
    by_cases e : i = j
    ·subst e; exact hm
    ·exact hall i (by lia)
  ·rw [decide_eq_false hlt] at hc
   have hjt : j = t.length := by lia
   rw [wh_false (cd := fun σ => (evX G φ cAbove σ).bind PV.truth) (f := fun σ => exSs G φ F (bAbove cM) σ) (σ := LA want t b j x4 x5) hc]
   have ht' : t = lets (toks want) := by
    rcases fits_cut _ t hf with h | ⟨a, x, c, rfl, h⟩
    ·exact h
    ·exfalso
     have hm : matchP want (a ++ c) = true := (matchP_iff want _).mpr h
     have hcut : cutAt (a ++ x :: c) a.length = a ++ c := by
      unfold cutAt
      rw [List.take_left, List.drop_append]
      simp
     have hlen : (a ++ x :: c).length = a.length + c.length + 1 := by simp; lia
     cases b with
     | false =>
      have := hall a.length (by lia)
      rw [show placeAt false (a ++ x :: c).length a.length = a.length from rfl, hcut, hm] at this
      cases this
     | true =>
      have := hall c.length (by lia)
      rw [show placeAt true (a ++ x :: c).length c.length = a.length by show _ - 1 - _ = _; lia, hcut, hm] at this
      cases this
   exact ⟨j, x4, x5, by rw [ht']⟩
theorem run_above {cM : Nat} {want t : List Nat} {b : Bool} (hM : ∀ t : List Nat, t.length ≤ 1000 → φ cM [.str want, .str t] = some (.bool (matchP want t))) (hf : FitsT (toks want) t) (ht : t.length ≤ 29) (hF : 900 < F) :
  runFn G φ F (fAbove cM) [.str want, .str t, .bool b] = some (.str (lets (toks want))) := by
 have hb : t.length * (t.length + 1) + (t.length - 0) < F := by
  have := Nat.mul_le_mul ht (show t.length + 1 ≤ 30 by lia)
  lia
 refine cps fun PP kk => ?_
 obtain ⟨j', x4', x5', e⟩ := above_loop (G := G) (F := F) (b := b) hM F t 0 .no .no hf (by lia) (Nat.zero_le _) (fun i hi => absurd hi (Nat.not_lt_zero _)) hb
 refine kk ?_
 clear kk PP
 refine run_fn (σ := LA want (lets (toks want)) b j' x4' x5') rfl ?_
 show exSs G φ F (fAbove cM).body [.val (.str want), .val (.str t), .val (.bool b), .no, .no, .no] = _
 unfold fAbove
 rw [ss_cons (σ' := LA want t b 0 .no .no) (s_asg0 (v := .int 0) rfl), ss_cons (s_whl.trans e)]
 exact ss_ret (s_ret (fr := []) rfl)
end
end Rs.Internal.M
end
section
set_option tactic.hygienic false
namespace Rs.Internal.M
open PySem
theorem lev_nil (c : Nat → Nat → Nat) (a : List Nat) (m : Int) : levP c a [] m = ((2 * a.length : Nat) : Int) := by
 cases a with
 | nil => simp [levP]
 | cons x a =>
  unfold levP
  rw [if_neg (by simp)]
  have h1 : cpl (x :: a) [] = 0 := by simp [cpl]
  have h2 : ∀ l : List Nat, cpl l [] = 0 := fun l => by cases l <;> simp [cpl]
  simp only [h1, List.drop_zero, List.reverse_nil, h2, Nat.sub_zero, List.take_nil, midL, List.isEmpty_nil, Bool.or_true, if_true]
  rw [List.take_length]
  simp
noncomputable def distN (c : Nat → Nat → Nat) (a b : List Nat) : Nat := (levP c a b 100000).toNat
theorem distN_ok {c : Nat → Nat → Nat} (hc : CostOk c) {a b : List Nat} (ha : a.length ≤ 1000) (hb : b.length ≤ 1000) : Dist c a b (distN c a b) := by
 obtain ⟨d, hd⟩ := dist_ex hc a b
 have h1 := hd.2 _ ((Al.dels a).append (Al.inss b) |> fun h => by simpa using h)
 have h2 := (levP_ok hc hd 100000).1 (by lia)
 unfold distN
 rw [h2]; exact hd
noncomputable def belowP (D : List Nat → Nat) (q : Nat) : List Nat → List Nat → Int → List Nat × Int
 | [], x, d => (x, d)
 | k :: ks, x, d => if (D (x.take k ++ [q] ++ x.drop (k + 1)) : Int) ≤ d - 2 then belowP D q ks (x.take k ++ [q] ++ x.drop (k + 1)) (d - 2) else belowP D q ks x d
section
variable {G : Gl} {φ : Nat → List PV → Option PV} {F : Nat} {σ : Store}
noncomputable def LB (want : List Nat) (P Q m : Nat) (x : List Nat) (d : Int) (x6 x7 : Slot) : Store := [.val (.str want), .val (.str [P]), .val (.str [Q]), .val (.int m), .val (.str x), .val (.int d), x6, x7]
noncomputable def bBelow (cD : Nat) : Ss := (.cons (.asg [] 7 (.bin .Add (.bin .Add (.slc (.var 4) (.const .none) (.var 6)) (.var 2)) (.slc (.var 4) (.bin .Add (.var 6) (.const (.int 1))) (.const .none))))
  (.cons (.ifS [] (.cmp .LtE (.call cD (.cons (.var 0) (.cons (.var 7) (.cons (.bin .Sub (.var 5) (.const (.int 2))) .nil)))) (.bin .Sub (.var 5) (.const (.int 2)))) (.cons (.asgP [] [(4, false), (5, false)] (.cons (.var 7) (.cons (.bin .Sub (.var 5) (.const (.int 2))) .nil)))
   .nil) .nil)
  .nil))
noncomputable def fBelow (cD : Nat) : Fn := { np := 3, ns := 8, body :=
 (.cons (.asg [] 3 (.mf .count (.var 0) (.cons (.const (.str [46])) .nil)))
 (.cons (.asg [] 4 (.bin .Mult (.var 1) (.bin .Sub (.bin .FloorDiv (.call cD (.cons (.var 0) (.cons (.const (.str [])) (.cons (.const (.int 0)) .nil)))) (.const (.int 2))) (.var 3))))
 (.cons (.asg [] 5 (.call cD (.cons (.var 0) (.cons (.var 4) (.cons (.bin .Mult (.const (.int 2)) (.bf .len (.cons (.var 0) .nil))) .nil)))))
 (.cons (.forS [] [6] true (.val (.bf .range1 (.cons (.bf .len (.cons (.var 4) .nil)) .nil))) (bBelow cD))
 (.cons (.ret [] (.tup (.cons (.var 4) (.cons (.bin .Sub (.var 5) (.bin .Mult (.const (.int 2)) (.var 3))) .nil))))
 .nil))))) }
theorem below_loop {cD : Nat} {want : List Nat} (hw : want.length ≤ 40) (hD : ∀ (y : List Nat) (m : Int), y.length ≤ 40 → φ cD [.str want, .str y, .int m] = some (.int (levP subC want y m))) {P Q m : Nat} : ∀ (ks x : List Nat) (d : Int) (x6 x7 : Slot),
  (∀ k ∈ ks, k < x.length) → x.length ≤ 40 →
  ∃ x6' x7', forLoop true [6] (fun σ => exSs G φ F (bBelow cD) σ) (intsV ks) (LB want P Q m x d x6 x7) = some (.nx, LB want P Q m (belowP (distN subC want) Q ks x d).1 (belowP (distN subC want) Q ks x d).2 x6' x7')
 | [], x, d, x6, x7, z1, z2 => ⟨x6, x7, rfl⟩
 | k :: ks, x, d, x6, x7, hk, hx => by
  have hk0 := hk k (List.mem_cons_self ..)
  let y := x.take k ++ [Q] ++ x.drop (k + 1)
  have hy : y.length = x.length := by
   show (x.take k ++ [Q] ++ x.drop (k + 1)).length = _
   simp only [List.length_append, List.length_take, List.length_drop, List.length_cons, List.length_nil]; lia
  have e1 : evX G φ (.bin .Add (.bin .Add (.slc (.var 4) (.const .none) (.var 6)) (.var 2)) (.slc (.var 4) (.bin .Add (.var 6) (.const (.int 1))) (.const .none))) (LB want P Q m x d (.val (.int k)) x7) = some (.str y) := by
   refine ev_cat (ev_cat (ev_slc (x := .str x) (y := .none) (z := .int k) rfl rfl rfl (slc_take (by lia) (by lia))) (v := [Q]) rfl ?_) (ev_slc (x := .str x) (y := .int ((k + 1 : Nat) : Int)) (z := .none) rfl (ev_bin (x := .int k) (y := .int 1) rfl rfl rfl) rfl (slc_from (by lia) (by lia))) ?_
   ·rw [List.length_take]; simp; lia
   ·simp only [List.length_append, List.length_take, List.length_drop, List.length_cons, List.length_nil]; lia
  have e2 : evX G φ (.cmp .LtE (.call cD (.cons (.var 0) (.cons (.var 7) (.cons (.bin .Sub (.var 5) (.const (.int 2))) .nil)))) (.bin .Sub (.var 5) (.const (.int 2)))) (LB want P Q m x d (.val (.int k)) (.val (.str y))) = some (.bool (decide (levP subC want y (d - 2) ≤ d - 2))) :=
   ev_cmp (op := .LtE) (ev_call (xs_cons (x := .str want) rfl (xs_cons (x := .str y) rfl (xs_cons (x := .int (d - 2)) rfl xs_nil))) (hD y (d - 2) (by lia))) (y := .int (d - 2)) rfl rfl
  have e3 := s_if0 (F := F) (t := (.cons (.asgP [] [(4, false), (5, false)] (.cons (.var 7) (.cons (.bin .Sub (.var 5) (.const (.int 2))) .nil))) .nil)) (e := .nil) e2 rfl
  have hle := levP_le subC_ok (distN_ok subC_ok (show want.length ≤ 1000 by lia) (show y.length ≤ 1000 by lia)) (d - 2)
  have eb : exSs G φ F (bBelow cD) (LB want P Q m x d (.val (.int k)) x7) = some (.nx, if (distN subC want y : Int) ≤ d - 2 then LB want P Q m y (d - 2) (.val (.int k)) (.val (.str y)) else LB want P Q m x d (.val (.int k)) (.val (.str y))) := by
   unfold bBelow
   refine (ss_cons (σ' := LB want P Q m x d (.val (.int k)) (.val (.str y))) (s_asg0 e1)).trans ?_
   by_cases hc : levP subC want y (d - 2) ≤ d - 2
   ·rw [decide_eq_true hc, if_pos rfl] at e3
    rw [if_pos (hle.mp hc)]
    refine (ss_cons (σ' := LB want P Q m y (d - 2) (.val (.int k)) (.val (.str y))) (e3.trans ?_)).trans ?_
    ·refine (ss_cons (s_asgP (fr := []) (vs := [.str y, .int (d - 2)]) (xs_cons (x := .str y) rfl (xs_cons (x := .int (d - 2)) rfl xs_nil)) (σ' := LB want P Q m y (d - 2) (.val (.int k)) (.val (.str y))) rfl)).trans ?_
     rfl
    ·rfl
   ·rw [decide_eq_false hc, if_neg (by simp)] at e3
    rw [if_neg (fun h => hc (hle.mpr h))]
    refine (ss_cons (e3.trans (ss_nil (G := G) (φ := φ) (F := F)))).trans ?_
    rfl
  by_cases hc : (distN subC want y : Int) ≤ d - 2
  ·rw [if_pos hc] at eb
   obtain ⟨x6', x7', e⟩ := below_loop hw hD (P := P) (Q := Q) (m := m) ks y (d - 2) (.val (.int k)) (.val (.str y)) (fun i hi => by have := hk i (List.mem_cons_of_mem _ hi); lia) (by lia)
   refine ⟨x6', x7', ?_⟩
   show forLoop true [6] _ (PV.int k :: intsV ks) _ = _
   rw [for_cons (σ₁ := LB want P Q m x d (.val (.int k)) x7) rfl eb, e]
   have : belowP (distN subC want) Q (k :: ks) x d = belowP (distN subC want) Q ks y (d - 2) := by
    rw [belowP]; exact if_pos hc
   rw [this]
  ·rw [if_neg hc] at eb
   obtain ⟨x6', x7', e⟩ := below_loop hw hD (P := P) (Q := Q) (m := m) ks x d (.val (.int k)) (.val (.str y)) (fun i hi => hk i (List.mem_cons_of_mem _ hi)) hx
   refine ⟨x6', x7', ?_⟩
   show forLoop true [6] _ (PV.int k :: intsV ks) _ = _
   rw [for_cons (σ₁ := LB want P Q m x d (.val (.int k)) x7) rfl eb, e]
   have : belowP (distN subC want) Q (k :: ks) x d = belowP (distN subC want) Q ks x d := by
    rw [belowP]; exact if_neg hc
   rw [this]
theorem run_below {cD : Nat} {want : List Nat} (hw : want.length ≤ 40) (hD : ∀ (y : List Nat) (m : Int), y.length ≤ 40 → φ cD [.str want, .str y, .int m] = some (.int (levP subC want y m))) {P Q n : Nat} (hn : want.length = want.count 46 + n)
  (hd : distN subC want (mulStr [P] n) ≤ 2 * want.length) {x : List Nat} {d : Int} (hr : belowP (distN subC want) Q (List.range' 0 n) (mulStr [P] n) (distN subC want (mulStr [P] n)) = (x, d)) :
  runFn G φ F (fBelow cD) [.str want, .str [P], .str [Q]] = some (.tup [.str x, .int (d - ((2 * want.count 46 : Nat) : Int))]) := by
 have hml : (mulStr [P] n).length = n := by simp [mulStr]
 suffices h : ∃ σ, exSs G φ F (fBelow cD).body [.val (.str want), .val (.str [P]), .val (.str [Q]), .no, .no, .no, .no, .no] = some (.rt (.tup [.str x, .int (d - ((2 * want.count 46 : Nat) : Int))]), σ) by
  obtain ⟨σ, h⟩ := h
  exact run_fn rfl h
 unfold fBelow
 rw [ss_cons (σ' := [.val (.str want), .val (.str [P]), .val (.str [Q]), .val (.int (want.count 46)), .no, .no, .no, .no]) (s_asg0 (ev_count (s := want) rfl (by lia)))]
 have e1 : evX G φ (.bin .Mult (.var 1) (.bin .Sub (.bin .FloorDiv (.call cD (.cons (.var 0) (.cons (.const (.str [])) (.cons (.const (.int 0)) .nil)))) (.const (.int 2))) (.var 3))) [.val (.str want), .val (.str [P]), .val (.str [Q]), .val (.int (want.count 46)), .no, .no, .no, .no] =
   some (.str (mulStr [P] n)) := by
  refine ev_rep (u := [P]) rfl (ev_bin (x := .int (want.length : Nat)) (y := .int (want.count 46 : Nat)) (ev_bin (x := .int ((2 * want.length : Nat) : Int)) (y := .int 2) (ev_call (xs_cons (x := .str want) rfl (xs_cons (x := .str []) rfl (xs_cons (x := .int 0) rfl xs_nil))) ?_) rfl ?_) rfl ?_) (by simp; lia) (by lia)
  ·rw [hD [] 0 (by simp), lev_nil]
  ·rw [div_bin _ (by decide) (by decide), show (2 : Int) = ((2 : Nat) : Int) from rfl, fdiv_nat]
   have : 2 * want.length / 2 = want.length := by lia
   rw [this]
  ·show some (PV.int ((want.length : Int) - (want.count 46 : Nat))) = _
   refine congrArg (fun i => some (PV.int i)) ?_
   lia
 rw [ss_cons (σ' := [.val (.str want), .val (.str [P]), .val (.str [Q]), .val (.int (want.count 46)), .val (.str (mulStr [P] n)), .no, .no, .no]) (s_asg0 e1)]
 have hdist := distN_ok subC_ok (show want.length ≤ 1000 by lia) (show (mulStr [P] n).length ≤ 1000 by lia)
 have e2 : evX G φ (.call cD (.cons (.var 0) (.cons (.var 4) (.cons (.bin .Mult (.const (.int 2)) (.bf .len (.cons (.var 0) .nil))) .nil)))) [.val (.str want), .val (.str [P]), .val (.str [Q]), .val (.int (want.count 46)), .val (.str (mulStr [P] n)), .no, .no, .no] =
   some (.int (distN subC want (mulStr [P] n))) := by
  refine ev_call (xs_cons (x := .str want) rfl (xs_cons (x := .str (mulStr [P] n)) rfl (xs_cons (x := .int ((2 * want.length : Nat) : Int)) (ev_bin (x := .int 2) (y := .int (want.length : Nat)) rfl (ev_len rfl (by lia)) (mul2 (by lia))) xs_nil))) ?_
  rw [hD _ _ (by lia)]
  exact congrArg (fun i => some (PV.int i)) ((levP_ok subC_ok hdist _).1 (by lia))
 rw [ss_cons (σ' := LB want P Q (want.count 46) (mulStr [P] n) (distN subC want (mulStr [P] n)) .no .no) (s_asg0 e2)]
 obtain ⟨x6', x7', e3⟩ := below_loop (G := G) (F := F) hw hD (P := P) (Q := Q) (m := want.count 46) (List.range' 0 n) (mulStr [P] n) (distN subC want (mulStr [P] n)) .no .no (fun k hk => by have := List.mem_range'_1.mp hk; lia) (by lia)
 rw [hr] at e3
 have it : evIt G φ (.val (.bf .range1 (.cons (.bf .len (.cons (.var 4) .nil)) .nil))) (LB want P Q (want.count 46) (mulStr [P] n) (distN subC want (mulStr [P] n)) .no .no) = some (intsV (List.range' 0 n)) :=
  it_range ((ev_len (a := .var 4) (s := mulStr [P] n) rfl (by lia)).trans (by rw [hml])) (by lia)
 have e4 : exS G φ F (.forS [] [6] true (.val (.bf .range1 (.cons (.bf .len (.cons (.var 4) .nil)) .nil))) (bBelow cD)) (LB want P Q (want.count 46) (mulStr [P] n) (distN subC want (mulStr [P] n)) .no .no) = some (.nx, LB want P Q (want.count 46) x d x6' x7') := (s_for (fr := []) it).trans e3
 rw [ss_cons e4]
 refine ⟨_, ss_ret (s_ret (fr := []) (ev_tup (xs_cons (x := .str x) rfl (xs_cons (x := .int (d - ((2 * want.count 46 : Nat) : Int))) (ev_bin (op := .Sub) (x := .int d) (y := .int ((2 * want.count 46 : Nat) : Int)) rfl (ev_bin (x := .int 2) (y := .int (want.count 46 : Nat)) rfl rfl (mul2 (by lia))) rfl) xs_nil)) (by simp)))⟩
end
end Rs.Internal.M
end
section
set_option tactic.hygienic false
namespace Rs.Internal.M
open PySem
noncomputable def eqC (x y : Nat) : Nat := if x = y then 0 else 2
theorem eqC_ok : CostOk eqC where
 refl := fun x => by simp [eqC]
 le2 := fun x y => by
  unfold eqC
  split <;> lia
 sym := fun x y => by
  unfold eqC
  by_cases h : x = y
  ·subst h; rfl
  ·rw [if_neg h, if_neg fun e => h e.symm]
noncomputable def lA : List (Option Bool) → List Nat
 | [] => []
 | none :: r => lA r
 | some b :: r => (if b then 2 else 1) :: lA r
noncomputable abbrev dots6 : List Nat := [46, 46, 46, 46, 46, 46]
noncomputable def toldL (g : Nat → Bool) (l : List Nat) (ks : List Nat) : List Nat := ks.flatMap fun k => (if g k then dots3 else []) ++ (l.take (k + 1)).drop k
noncomputable def okRow (ts : List (Option Bool)) : Bool :=
 let w := wA ts
 let n := (lA ts).length
 let x0 := mulStr [1] n
 let d0 := distN eqC w x0
 let g := ts.map (lift 1 2)
 !Nat.ble (ts.count none) 3 || (Nat.ble d0 (2 * w.length) && (belowP (distN eqC w) 2 (List.range' 0 n) x0 d0 == (lA ts, ((2 * w.count 46 : Nat) : Int))) &&
  (toldL (gapAt g) (lA ts) (List.range' 0 (n + 1)) == replL (replL w dots6 dots3) dots6 dots3) && Nat.ble (replL w dots6 dots3).length 1000)
noncomputable def rowsN : Nat → List (List (Option Bool))
 | 0 => [[]]
 | n + 1 => (rowsN n).flatMap fun r => [none :: r, some false :: r, some true :: r]
theorem mem_rows : ∀ ts : List (Option Bool), ts ∈ rowsN ts.length
 | [] => by simp [rowsN]
 | t :: r => by
  show t :: r ∈ (rowsN r.length).flatMap _
  refine List.mem_flatMap.mpr ⟨r, mem_rows r, ?_⟩
  rcases t with _ | _ | _ <;> simp
theorem rows_4 : ((List.range 5).all fun n => (rowsN n).all okRow) = true := by decide +kernel
theorem rows_50 : ((rowsN 4).all fun r => okRow (none :: r)) = true := by decide +kernel
theorem rows_51 : ((rowsN 4).all fun r => okRow (some false :: r)) = true := by decide +kernel
theorem rows_52 : ((rowsN 4).all fun r => okRow (some true :: r)) = true := by decide +kernel
theorem rows_600 : ((rowsN 4).all fun r => okRow (none :: none :: r)) = true := by decide +kernel
theorem rows_601 : ((rowsN 4).all fun r => okRow (none :: some false :: r)) = true := by decide +kernel
theorem rows_602 : ((rowsN 4).all fun r => okRow (none :: some true :: r)) = true := by decide +kernel
theorem rows_610 : ((rowsN 4).all fun r => okRow (some false :: none :: r)) = true := by decide +kernel
theorem rows_611 : ((rowsN 4).all fun r => okRow (some false :: some false :: r)) = true := by decide +kernel
theorem rows_612 : ((rowsN 4).all fun r => okRow (some false :: some true :: r)) = true := by decide +kernel
theorem rows_620 : ((rowsN 4).all fun r => okRow (some true :: none :: r)) = true := by decide +kernel
theorem rows_621 : ((rowsN 4).all fun r => okRow (some true :: some false :: r)) = true := by decide +kernel
theorem rows_622 : ((rowsN 4).all fun r => okRow (some true :: some true :: r)) = true := by decide +kernel
theorem row_ok {ts : List (Option Bool)} (h : ts.length ≤ 6) : okRow ts = true := by
 by_cases h4 : ts.length ≤ 4
 ·exact List.all_eq_true.mp (List.all_eq_true.mp rows_4 ts.length (List.mem_range.mpr (by lia))) ts (mem_rows ts)
 ·cases ts with
  | nil => simp at h4
  | cons a r =>
   by_cases h5 : r.length = 4
   ·have hr : r ∈ rowsN 4 := by rw [← h5]; exact mem_rows r
    rcases a with _ | _ | _
    ·exact List.all_eq_true.mp rows_50 r hr
    ·exact List.all_eq_true.mp rows_51 r hr
    ·exact List.all_eq_true.mp rows_52 r hr
   ·cases r with
    | nil => simp at h4
    | cons b r =>
     have h6 : r.length = 4 := by simp at h h4 h5; lia
     have hr : r ∈ rowsN 4 := by rw [← h6]; exact mem_rows r
     rcases a with _ | _ | _ <;> rcases b with _ | _ | _
     ·exact List.all_eq_true.mp rows_600 r hr
     ·exact List.all_eq_true.mp rows_601 r hr
     ·exact List.all_eq_true.mp rows_602 r hr
     ·exact List.all_eq_true.mp rows_610 r hr
     ·exact List.all_eq_true.mp rows_611 r hr
     ·exact List.all_eq_true.mp rows_612 r hr
     ·exact List.all_eq_true.mp rows_620 r hr
     ·exact List.all_eq_true.mp rows_621 r hr
     ·exact List.all_eq_true.mp rows_622 r hr
end Rs.Internal.M
end
section
set_option tactic.hygienic false
namespace Rs.Internal.M
open PySem
theorem lower_sign : ∀ p < 26, lowerL [97 + p] = [97 + p] := by decide +kernel
theorem lower_dot : lowerL [46] = [46] := by decide +kernel
theorem hid_not : ∀ k < 27, (Nat.ble 97 (hidC k) && Nat.ble (hidC k) 122) = false := by decide +kernel
noncomputable def gS (P Q x : Nat) : Nat := if x = P then 1 else if x = Q then 2 else x
noncomputable def Row3 (x : Nat) : Prop := x = 1 ∨ x = 2 ∨ x = 46
section
variable {p q : Nat} (hp : p < 26) (hq : q < 26) (hpq : p ≠ q)
include hp hq hpq
theorem gf_row {x : Nat} (h : Row3 x) : gS (97 + p) (97 + q) (fS (97 + p) (97 + q) x) = x := by
 rcases h with rfl | rfl | rfl
 ·simp [gS, fS]
 ·have : ¬ 97 + q = 97 + p := by lia
  simp [gS, fS, this]; lia
 ·have h1 : ¬ 46 = 97 + p := by lia
  have h2 : ¬ 46 = 97 + q := by lia
  simp [gS, fS, h1, h2]
theorem lower_row {x : Nat} (h : Row3 x) : lowerL [fS (97 + p) (97 + q) x] = [fS (97 + p) (97 + q) x] := by
 rcases h with rfl | rfl | rfl
 ·exact lower_sign p hp
 ·exact lower_sign q hq
 ·exact lower_dot
theorem sub_row {x y : Nat} (hx : Row3 x) (hy : Row3 y) : subC (fS (97 + p) (97 + q) x) (fS (97 + p) (97 + q) y) = eqC x y := by
 unfold subC eqC
 by_cases e : x = y
 ·subst e; rw [if_pos rfl, if_pos rfl]
 ·have hne : fS (97 + p) (97 + q) x ≠ fS (97 + p) (97 + q) y := fun h => e (by
   have := congrArg (gS (97 + p) (97 + q)) h
   rwa [gf_row hp hq hpq hx, gf_row hp hq hpq hy] at this)
  rw [if_neg hne, if_neg e, lower_row hp hq hpq hx, lower_row hp hq hpq hy, if_neg (by simpa using hne)]
theorem dist_row {a b : List Nat} (ha : ∀ x ∈ a, Row3 x) (hb : ∀ x ∈ b, Row3 x) (la : a.length ≤ 1000) (lb : b.length ≤ 1000) :
  distN subC (a.map (fS (97 + p) (97 + q))) (b.map (fS (97 + p) (97 + q))) = distN eqC a b := by
 have h1 := distN_ok eqC_ok la lb
 have h2 := h1.map (c' := subC) (fS (97 + p) (97 + q)) (gS (97 + p) (97 + q)) (fun x hx => gf_row hp hq hpq (ha x hx)) (fun x hx => gf_row hp hq hpq (hb x hx)) (fun x hx y hy => sub_row hp hq hpq (ha x hx) (hb y hy))
 exact (distN_ok subC_ok (by simpa using la) (by simpa using lb)).unique h2
theorem below_row {a : List Nat} (ha : ∀ x ∈ a, Row3 x) (la : a.length ≤ 1000) : ∀ (ks x : List Nat) (d : Int), (∀ c ∈ x, Row3 c) → x.length + ks.length ≤ 1000 →
  belowP (distN subC (a.map (fS (97 + p) (97 + q)))) (97 + q) ks (x.map (fS (97 + p) (97 + q))) d =
   ((belowP (distN eqC a) 2 ks x d).1.map (fS (97 + p) (97 + q)), (belowP (distN eqC a) 2 ks x d).2)
 | [], x, d, z1, z2 => rfl
 | k :: ks, x, d, hx, hl => by
  simp only [List.length_cons] at hl
  have hy : ∀ c ∈ x.take k ++ [2] ++ x.drop (k + 1), Row3 c := by
   intro c hc
   rcases List.mem_append.mp hc with hc | hc
   ·rcases List.mem_append.mp hc with hc | hc
    ·exact hx c (List.mem_of_mem_take hc)
    ·have : c = 2 := by simpa using hc
     exact .inr (.inl this)
   ·exact hx c (List.mem_of_mem_drop hc)
  have hyl : (x.take k ++ [2] ++ x.drop (k + 1)).length ≤ x.length + 1 := by
   simp only [List.length_append, List.length_take, List.length_drop, List.length_cons, List.length_nil]; lia
  have em : (x.map (fS (97 + p) (97 + q))).take k ++ [97 + q] ++ (x.map (fS (97 + p) (97 + q))).drop (k + 1) = (x.take k ++ [2] ++ x.drop (k + 1)).map (fS (97 + p) (97 + q)) := by
   rw [List.map_append, List.map_append, List.map_take, List.map_drop]; rfl
  simp only [belowP, em, dist_row hp hq hpq ha hy la (by lia)]
  split
  ·exact below_row ha la ks _ _ hy (by lia)
  ·exact below_row ha la ks x d hx (by lia)
end
theorem wA_row : ∀ (ts : List (Option Bool)), ∀ x ∈ wA ts, Row3 x
 | [], x, h => by simp [wA] at h
 | none :: r, x, h => by
  have h : x = 46 ∨ x ∈ wA r := by simpa [wA] using h
  rcases h with h | h
  ·exact .inr (.inr h)
  ·exact wA_row r x h
 | some b :: r, x, h => by
  rcases List.mem_cons.mp h with h | h
  ·cases b
   ·exact .inl h
   ·exact .inr (.inl h)
  ·exact wA_row r x h
theorem lets_row (P Q : Nat) : ∀ ts : List (Option Bool), lets (ts.map (lift P Q)) = (lA ts).map (fS P Q)
 | [] => rfl
 | none :: r => lets_row P Q r
 | some b :: r => by
  show (if b then Q else P) :: lets (r.map (lift P Q)) = _
  rw [lets_row P Q r]
  cases b <;> rfl
theorem gap_row (P Q P' Q' : Nat) : ∀ (ts : List (Option Bool)) (k : Nat), gapAt (ts.map (lift P Q)) k = gapAt (ts.map (lift P' Q')) k
 | [], k => rfl
 | none :: r, 0 => rfl
 | none :: r, k + 1 => gap_row P Q P' Q' r (k + 1)
 | some b :: r, 0 => rfl
 | some b :: r, k + 1 => gap_row P Q P' Q' r k
theorem w_lets {P Q : Nat} (hP : P ≠ 46) (hQ : Q ≠ 46) : ∀ ts : List (Option Bool), (wA ts).length = ((wA ts).map (fS P Q)).count 46 + (lA ts).length
 | [] => rfl
 | none :: r => by
  have ih := w_lets hP hQ r
  simp only [wA, lA, List.map_cons, fS_dot, List.count_cons_self, List.length_cons]; lia
 | some b :: r => by
  have ih := w_lets hP hQ r
  cases b with
  | true => simp only [wA, lA, if_true, List.map_cons, List.length_cons]; rw [List.count_cons_of_ne (by exact hQ)]; lia
  | false => simp only [wA, lA, Bool.false_eq_true, if_false, List.map_cons, List.length_cons]; rw [List.count_cons_of_ne (by exact hP)]; lia
theorem mul_map (f : Nat → Nat) (n x : Nat) : (mulStr [x] n).map f = mulStr [f x] n := by simp [mulStr]
theorem told_map (f : Nat → Nat) (h : f 46 = 46) (g : Nat → Bool) (l : List Nat) : ∀ ks : List Nat, (toldL g l ks).map f = toldL g (l.map f) ks
 | [] => rfl
 | k :: ks => by
  have ih := told_map f h g l ks
  have e : ∀ (g : Nat → Bool) (l : List Nat), toldL g l (k :: ks) = ((if g k then dots3 else []) ++ (l.take (k + 1)).drop k) ++ toldL g l ks := fun g l => by simp [toldL]
  rw [e, e, List.map_append, List.map_append, ih, List.map_drop, List.map_take]
  congr 2
  split
  ·simp [h]
  ·rfl
theorem row_facts {p q : Nat} (hp : p < 26) (hq : q < 26) (hpq : p ≠ q) {ts : List (Option Bool)} (h6 : ts.length ≤ 6) (h3 : ts.count none ≤ 3) :
  let f := fS (97 + p) (97 + q)
  let want := (wA ts).map f
  let n := (lA ts).length
  let T := ts.map (lift (97 + p) (97 + q))
  want.length = want.count 46 + n ∧ distN subC want (mulStr [97 + p] n) ≤ 2 * want.length ∧
  belowP (distN subC want) (97 + q) (List.range' 0 n) (mulStr [97 + p] n) (distN subC want (mulStr [97 + p] n)) = (lets T, ((2 * want.count 46 : Nat) : Int)) ∧
  toldL (gapAt T) (lets T) (List.range' 0 (n + 1)) = replL (replL want dots6 dots3) dots6 dots3 ∧ (replL want dots6 dots3).length ≤ 1000 := by
 intro f want n T
 have hP : 97 + p ≠ 46 := by lia
 have hQ : 97 + q ≠ 46 := by lia
 have hok := row_ok h6
 have hc : want.count 46 = (wA ts).count 46 := by
  have h1 := w_count hP hQ ts
  have h2 := w_count (P := 1) (Q := 2) (by decide) (by decide) ts
  have : ((wA ts).map (fS 1 2)) = wA ts := by
   have : ∀ x ∈ wA ts, fS 1 2 x = x := fun x hx => by
    rcases wA_row ts x hx with rfl | rfl | rfl <;> rfl
   rw [List.map_congr_left this]; simp
  rw [this] at h2
  rw [h1, h2]
 have hwl : (wA ts).length ≤ 18 := by have := w_len ts; lia
 have hn := w_lets hP hQ ts
 have hn' : want.length = want.count 46 + n := by rw [List.length_map]; exact hn
 have hnl : n ≤ 18 := by
  have : want.length ≤ 18 := by rw [List.length_map]; exact hwl
  lia
 unfold okRow at hok
 have hb : Nat.ble (ts.count none) 3 = true := Nat.ble_eq_true_of_le h3
 simp only [hb, Bool.not_true, Bool.false_or, Bool.and_eq_true, beq_iff_eq] at hok
 refine cps fun PP kk => ?_
 obtain ⟨⟨⟨k1, k2⟩, k3⟩, k4⟩ := hok
 refine kk ?_
 clear kk PP
 have hx0 : ∀ c ∈ mulStr [1] n, Row3 c := fun c hc => by
  have : c = 1 := by
   simp [mulStr] at hc
   exact hc.2
  exact .inl this
 have hml : (mulStr [1] n).length = n := by simp [mulStr]
 have hxm : mulStr [97 + p] n = (mulStr [1] n).map f := (mul_map f n 1).symm
 have hd0 : distN subC want (mulStr [97 + p] n) = distN eqC (wA ts) (mulStr [1] n) := by
  rw [hxm]; exact dist_row hp hq hpq (wA_row ts) hx0 (by lia) (by lia)
 refine ⟨hn', ?_, ?_, ?_⟩
 ·rw [hd0, List.length_map]; exact Nat.le_of_ble_eq_true k1
 ·rw [hd0, hxm, below_row hp hq hpq (wA_row ts) (by lia) _ _ _ hx0 (by rw [hml, List.length_range']; lia), k2, hc]
  show ((lA ts).map f, _) = _
  rw [← lets_row]
 ·have e1 : toldL (gapAt T) (lets T) (List.range' 0 (n + 1)) = (toldL (gapAt (ts.map (lift 1 2))) (lA ts) (List.range' 0 (n + 1))).map f := by
   rw [told_map f rfl, ← lets_row]
   congr 1
   funext k
   exact gap_row _ _ _ _ ts k
  have inj : ∀ x ∈ dots6, ∀ l : List Nat, (∀ y ∈ l, Row3 y) → ∀ y ∈ l, f x = f y → x = y := fun x hx l hl y hy h => by
   have hx' : Row3 x := .inr (.inr (by simpa using hx))
   have := congrArg (gS (97 + p) (97 + q)) h
   rwa [gf_row hp hq hpq hx', gf_row hp hq hpq (hl y hy)] at this
  have r1 : replL want dots6 dots3 = (replL (wA ts) dots6 dots3).map f := repl_map (f := f) (wA ts) dots6 dots3 fun x hx y hy => inj x hx _ (wA_row ts) y hy
  have hr : ∀ y ∈ replL (wA ts) dots6 dots3, Row3 y := by
   have hsp : ∀ (n : Nat) (cur s : List Nat), (∀ y ∈ cur, Row3 y) → (∀ y ∈ s, Row3 y) → ∀ w ∈ splitGo dots6 n cur s, ∀ y ∈ w, Row3 y := by
    intro n
    induction n with
    | zero =>
     intro cur s h1 h2 w hw y hy
     have : w = cur.reverse ++ s := by simpa [splitGo] using hw
     rw [this] at hy
     rcases List.mem_append.mp hy with h | h
     ·exact h1 y (by simpa using h)
     ·exact h2 y h
    | succ n ih =>
     intro cur s h1 h2 w hw y hy
     cases s with
     | nil =>
      have : w = cur.reverse := by simpa [splitGo] using hw
      rw [this] at hy
      exact h1 y (by simpa using hy)
     | cons x s =>
      unfold splitGo at hw
      split at hw
      ·rcases List.mem_cons.mp hw with rfl | hw
       ·exact h1 y (by simpa using hy)
       ·exact ih [] _ (by simp) (fun z hz => h2 z (List.mem_of_mem_drop hz)) w hw y hy
      ·exact ih (x :: cur) s (fun z hz => by
        rcases List.mem_cons.mp hz with rfl | hz
        ·exact h2 z (List.mem_cons_self ..)
        ·exact h1 z hz) (fun z hz => h2 z (List.mem_cons_of_mem _ hz)) w hw y hy
   intro y hy
   unfold replL List.intercalate at hy
   obtain ⟨w, hw, hy⟩ := List.mem_flatten.mp hy
   have hmem : ∀ l : List (List Nat), ∀ w ∈ List.intersperse dots3 l, w = dots3 ∨ w ∈ l := by
    intro l
    induction l with
    | nil => intro w hw; simp [List.intersperse] at hw
    | cons a l ih =>
     intro w hw
     cases l with
     | nil => right; simpa [List.intersperse] using hw
     | cons b l =>
      simp only [List.intersperse, List.mem_cons] at hw
      rcases hw with h | h | h
      ·right; rw [h]; exact List.mem_cons_self ..
      ·left; exact h
      ·rcases ih w h with h | h
       ·left; exact h
       ·right; exact List.mem_cons_of_mem _ h
   rcases hmem _ w hw with rfl | hw
   ·exact .inr (.inr (by simpa using hy))
   ·exact hsp _ [] (wA ts) (by simp) (wA_row ts) w hw y hy
  rw [r1, List.length_map]
  refine ⟨?_, Nat.le_of_ble_eq_true k4⟩
  rw [e1, k3]
  exact (repl_map (f := f) _ dots6 dots3 fun x hx y hy => inj x hx _ hr y hy).symm
end Rs.Internal.M
end
section
set_option tactic.hygienic false
set_option backward.match.sparseCases false
namespace Rs.Internal.M
open PySem
section
variable {G : Gl} {φ : Nat → List PV → Option PV} {F : Nat} {σ : Store}
noncomputable def cells2 : List Int := [12232, 12249, 437, 4861, 2601, 2]
noncomputable def cellAt (ns : List Int) (d : List Int) (j : Nat) : Int := if j < ns.length then (ns[j]?).getD 0 else (d[j]?).getD 0
noncomputable def xCells (d : Xs) (n : Int) : X := (.comp [0] 1 [1] true (.val (.bf .range1 (.cons (.const (.int n)) .nil))) .nil (.fin (.ite (.cmp .Lt (.var 1) (.bf .len (.cons (.var 0) .nil))) (.idx (.var 0) (.var 1)) (.idx (.list d) (.var 1)))))
theorem ev_lenL {a : X} {l : List PV} (ha : evX G φ a σ = some (.lst l)) (hl : l.length ≤ 1048576) : evX G φ (.bf .len (.cons a .nil)) σ = some (.int l.length) :=
 ev_bf (xs_cons ha xs_nil) (by simp only [bfLen, lenS, lenL, fitL_le hl, if_true])
theorem ev_cells {ns ds : List Int} {d : Xs} {n : Nat} (hd : ∀ σ, evXs G φ d σ = some (ds.map .int)) (hn : n ≤ ds.length) (hds : ds.length ≤ 100) (hl : ns.length ≤ 100) (h0 : getS σ 0 = .val (.lst (ns.map .int))) :
  evX G φ (xCells d n) σ = some (.lst (((List.range' 0 n).map (cellAt ns ds)).map .int)) := by
 have it : evIt G φ (.val (.bf .range1 (.cons (.const (.int n)) .nil))) σ = some (intsV (List.range' 0 n)) := it_range rfl (by lia)
 unfold xCells
 have loop : compLoop (fun v => do
   let σ'' ← bindTg true [1] v (clr ([1] ++ (Gs.fin (.ite (.cmp .Lt (.var 1) (.bf .len (.cons (.var 0) .nil))) (.idx (.var 0) (.var 1)) (.idx (.list d) (.var 1)))).tgs) (List.map (fun i => capS (getS σ i)) [0] ++ List.replicate 1 .no))
   let t ← evIfs G φ .nil σ''
   if t then evGs G φ (.fin (.ite (.cmp .Lt (.var 1) (.bf .len (.cons (.var 0) .nil))) (.idx (.var 0) (.var 1)) (.idx (.list d) (.var 1)))) σ'' else some []) (intsV (List.range' 0 n)) = some (((List.range' 0 n).map (cellAt ns ds)).map .int) := by
  rw [compLoop_map (g := fun v => match v with | .int j => [.int (cellAt ns ds j.toNat)] | _ => [])]
  ·refine congrArg some ?_
   unfold intsV
   rw [List.flatMap_map, List.map_map]
   induction List.range' 0 n with
   | nil => rfl
   | cons a l ih => rw [List.flatMap_cons, ih]; rfl
  ·intro v hv
   obtain ⟨j, hj, rfl⟩ := List.mem_map.mp hv
   have hj : j < n := by have := List.mem_range'_1.mp hj; lia
   rw [List.map_cons, List.map_nil, h0]
   have c1 : evX G φ (.ite (.cmp .Lt (.var 1) (.bf .len (.cons (.var 0) .nil))) (.idx (.var 0) (.var 1)) (.idx (.list d) (.var 1))) [.val (.lst (ns.map .int)), .val (.int j)] = some (.int (cellAt ns ds j)) := by
    have ct : evX G φ (.cmp .Lt (.var 1) (.bf .len (.cons (.var 0) .nil))) [.val (.lst (ns.map .int)), .val (.int j)] = some (.bool (decide (j < ns.length))) := by
     refine ev_cmp (op := .Lt) (x := .int j) rfl (ev_lenL (a := .var 0) (l := ns.map .int) rfl (by rw [List.length_map]; lia)) ?_
     rw [List.length_map]
     show some (decide ((j : Int) < (ns.length : Int))) = _
     refine congrArg some (decide_eq_decide.mpr ?_); lia
    refine (ev_ite ct rfl).trans ?_
    unfold cellAt
    by_cases h : j < ns.length
    ·rw [if_pos (by simpa using h), if_pos h]
     refine ev_idx (x := .lst (ns.map .int)) (y := .int j) rfl rfl (idx_lst ?_ (by rw [List.length_map]; lia))
     rw [List.getElem?_map, List.getElem?_eq_getElem h]; rfl
    ·rw [if_neg (by simpa using h), if_neg h]
     refine ev_idx (y := .int j) (ev_list (hd _) (by rw [List.length_map]; lia)) rfl (idx_lst ?_ (by rw [List.length_map]; lia))
     rw [List.getElem?_map, List.getElem?_eq_getElem (show j < ds.length by lia)]; rfl
   show (evX G φ (.ite (.cmp .Lt (.var 1) (.bf .len (.cons (.var 0) .nil))) (.idx (.var 0) (.var 1)) (.idx (.list d) (.var 1))) [.val (.lst (ns.map .int)), .val (.int j)]).map (fun p => [p]) = _
   rw [c1]; rfl
 simp only [Option.bind_eq_bind] at loop
 exact ev_comp it loop (by rw [List.length_map, List.length_map, List.length_range']; lia)
theorem ints_map : ∀ l : List Int, ints? (l.map .int) = some l := by
 intro l
 induction l with
 | nil =>
  exact rfl
 | cons x l ih__ =>
  show (ints? (l.map .int)).map (x :: ·) = _
  rw [ih__]; rfl
theorem ev_sum {a : X} {l : List Int} (ha : evX G φ a σ = some (.lst (l.map .int))) (hl : l.length ≤ 1000) : evX G φ (.bf .sum1 (.cons a .nil)) σ = some (.int l.sum) :=
 ev_bf (xs_cons ha xs_nil) (by simp only [bfSum1, sum1E, ints_map, Option.bind_some, fitL_le (show (l.map PV.int).length ≤ 1048576 by rw [List.length_map]; lia), if_true])
end
end Rs.Internal.M
end
section
set_option tactic.hygienic false
namespace Rs.Internal.M
open PySem
section
variable {G : Gl} {φ : Nat → List PV → Option PV} {F : Nat} {σ : Store}
noncomputable def L2 (sc cs : PV) (s1 : Slot) (v3 : Int) (p q : Nat) (ty wa ra go : List Nat) (x10 x11 x12 x13 x14 x15 x16 x17 x18 x19 : Slot) : Store :=
 [.val sc, s1, .val cs, .val (.int v3), .val (.int p), .val (.int q), .val (.str ty), .val (.str wa), .val (.str ra), .val (.str go), x10, x11, x12, x13, x14, x15, x16, x17, x18, x19]
noncomputable def xTold : X := (.call 0 (.cons (.var 15) (.cons (.bin .Add (.bin .Add (.slc (.var 17) (.const .none) (.var 1)) (.var 18)) (.slc (.var 17) (.var 1) (.const .none))) .nil)))
noncomputable def bTold : Ss := (.cons (.ifS [] xTold (.cons (.aug [] 19 .Add (.const (.str [46, 46, 46])))
   .nil) .nil)
  (.cons (.aug [] 19 .Add (.slc (.var 17) (.var 1) (.bin .Add (.var 1) (.const (.int 1)))))
  .nil))
theorem told_turn (hM : ∀ w t : List Nat, w.length ≤ 1000 → t.length ≤ 1000 → φ 0 [.str w, .str t] = some (.bool (matchP w t))) {sc cs : PV} {v3 : Int} {p q : Nat} {ty wa ra go : List Nat} {x10 x11 x12 x13 x14 x16 : Slot} {w l S : List Nat} {g : Nat → Bool}
  (hw : w.length ≤ 100) (hl : l.length ≤ 100) (hS : S.length ≤ 100) {k : Nat} (hk : k ≤ l.length) (hg : matchP w (l.take k ++ (S ++ l.drop k)) = g k) {t : List Nat} (ht : t.length ≤ 1000) :
  exSs G φ F bTold (L2 sc cs (.val (.int k)) v3 p q ty wa ra go x10 x11 x12 x13 x14 (.val (.str w)) x16 (.val (.str l)) (.val (.str S)) (.val (.str t))) =
   some (.nx, L2 sc cs (.val (.int k)) v3 p q ty wa ra go x10 x11 x12 x13 x14 (.val (.str w)) x16 (.val (.str l)) (.val (.str S)) (.val (.str (t ++ ((if g k then dots3 else []) ++ (l.take (k + 1)).drop k))))) := by
 have e1 : evX G φ xTold (L2 sc cs (.val (.int k)) v3 p q ty wa ra go x10 x11 x12 x13 x14 (.val (.str w)) x16 (.val (.str l)) (.val (.str S)) (.val (.str t))) = some (.bool (g k)) := by
  have ea : evX G φ (.bin .Add (.bin .Add (.slc (.var 17) (.const .none) (.var 1)) (.var 18)) (.slc (.var 17) (.var 1) (.const .none))) (L2 sc cs (.val (.int k)) v3 p q ty wa ra go x10 x11 x12 x13 x14 (.val (.str w)) x16 (.val (.str l)) (.val (.str S)) (.val (.str t))) = some (.str (l.take k ++ (S ++ l.drop k))) := by
   rw [← List.append_assoc]
   refine ev_cat (ev_cat (ev_slc (x := .str l) (y := .none) (z := .int k) rfl rfl rfl (slc_take hk (by lia))) (v := S) rfl ?_) (ev_slc (x := .str l) (y := .int k) (z := .none) rfl rfl rfl (slc_from (by lia) (by lia))) ?_
   ·rw [List.length_take]; lia
   ·simp only [List.length_append, List.length_take, List.length_drop]; lia
  rw [← hg]
  refine ev_call (xs_cons (x := .str w) rfl (xs_cons ea xs_nil)) (hM w _ (by lia) ?_)
  simp only [List.length_append, List.length_take, List.length_drop]; lia
 have e2 := s_if0 (F := F) (t := (.cons (.aug [] 19 .Add (.const (.str [46, 46, 46]))) .nil)) (e := .nil) e1 rfl
 have e3 : ∀ t : List Nat, evX G φ (.slc (.var 17) (.var 1) (.bin .Add (.var 1) (.const (.int 1)))) (L2 sc cs (.val (.int k)) v3 p q ty wa ra go x10 x11 x12 x13 x14 (.val (.str w)) x16 (.val (.str l)) (.val (.str S)) (.val (.str t))) = some (.str ((l.take (k + 1)).drop k)) := fun t =>
  ev_slc (x := .str l) (y := .int k) (z := .int ((k + 1 : Nat) : Int)) rfl rfl (ev_bin (x := .int k) (y := .int 1) rfl rfl rfl) (slc_mid hk (by lia) (by lia))
 have hlen : ((l.take (k + 1)).drop k).length ≤ 100 := by rw [List.length_drop, List.length_take]; lia
 unfold bTold
 cases hgk : g k with
 | true =>
  rw [hgk, if_pos rfl] at e2
  rw [if_pos rfl]
  have e4 : exSs G φ F (.cons (.aug [] 19 .Add (.const (.str [46, 46, 46]))) .nil) (L2 sc cs (.val (.int k)) v3 p q ty wa ra go x10 x11 x12 x13 x14 (.val (.str w)) x16 (.val (.str l)) (.val (.str S)) (.val (.str t))) =
    some (.nx, L2 sc cs (.val (.int k)) v3 p q ty wa ra go x10 x11 x12 x13 x14 (.val (.str w)) x16 (.val (.str l)) (.val (.str S)) (.val (.str (t ++ dots3)))) :=
   (ss_cons (s_cat (i := 19) (u := t) (v := dots3) rfl rfl (by simp; lia))).trans rfl
  refine (ss_cons (e2.trans e4)).trans ?_
  refine (ss_cons (s_cat (i := 19) (u := t ++ dots3) rfl (e3 _) (by rw [List.length_append]; simp at hlen ⊢; lia))).trans ?_
  rw [List.append_assoc]
  rfl
 | false =>
  rw [hgk, if_neg (by simp)] at e2
  rw [if_neg (by simp), List.nil_append]
  refine (ss_cons (e2.trans (ss_nil (G := G) (φ := φ) (F := F)))).trans ?_
  exact (ss_cons (s_cat (i := 19) (u := t) rfl (e3 _) (by simp at hlen ⊢; lia))).trans rfl
theorem told_loop (hM : ∀ w t : List Nat, w.length ≤ 1000 → t.length ≤ 1000 → φ 0 [.str w, .str t] = some (.bool (matchP w t))) {sc cs : PV} {v3 : Int} {p q : Nat} {ty wa ra go : List Nat} {x10 x11 x12 x13 x14 x16 : Slot} {w l S : List Nat} {g : Nat → Bool}
  (hw : w.length ≤ 100) (hl : l.length ≤ 100) (hS : S.length ≤ 100) (hg : ∀ k ≤ l.length, matchP w (l.take k ++ (S ++ l.drop k)) = g k) : ∀ (ks t : List Nat) (s1 : Slot), (∀ k ∈ ks, k ≤ l.length) → t.length + 4 * ks.length ≤ 1000 →
  ∃ s1', forLoop true [1] (fun σ => exSs G φ F bTold σ) (intsV ks) (L2 sc cs s1 v3 p q ty wa ra go x10 x11 x12 x13 x14 (.val (.str w)) x16 (.val (.str l)) (.val (.str S)) (.val (.str t))) =
   some (.nx, L2 sc cs s1' v3 p q ty wa ra go x10 x11 x12 x13 x14 (.val (.str w)) x16 (.val (.str l)) (.val (.str S)) (.val (.str (t ++ toldL g l ks))))
 | [], t, s1, _, _ => ⟨s1, by simp [toldL, forLoop, intsV]⟩
 | k :: ks, t, s1, hk, ht => by
  simp only [List.length_cons] at ht
  have e := told_turn (G := G) (F := F) hM (sc := sc) (cs := cs) (v3 := v3) (p := p) (q := q) (ty := ty) (wa := wa) (ra := ra) (go := go) (x10 := x10) (x11 := x11) (x12 := x12) (x13 := x13) (x14 := x14) (x16 := x16) hw hl hS (hk k (List.mem_cons_self ..)) (hg k (hk k (List.mem_cons_self ..))) (t := t) (by lia)
  have hlen : ((if g k then dots3 else []) ++ (l.take (k + 1)).drop k).length ≤ 4 := by
   rw [List.length_append, List.length_drop, List.length_take]
   split
   ·show 3 + _ ≤ 4; lia
   ·show 0 + _ ≤ 4; lia
  obtain ⟨s1', e'⟩ := told_loop hM (sc := sc) (cs := cs) (v3 := v3) (p := p) (q := q) (ty := ty) (wa := wa) (ra := ra) (go := go) (x10 := x10) (x11 := x11) (x12 := x12) (x13 := x13) (x14 := x14) (x16 := x16) hw hl hS hg ks (t ++ ((if g k then dots3 else []) ++ (l.take (k + 1)).drop k)) (.val (.int k)) (fun i hi => hk i (List.mem_cons_of_mem _ hi)) (by rw [List.length_append]; lia)
  refine ⟨s1', ?_⟩
  show forLoop true [1] _ (PV.int k :: intsV ks) _ = _
  rw [for_cons (σ₁ := L2 sc cs (.val (.int k)) v3 p q ty wa ra go x10 x11 x12 x13 x14 (.val (.str w)) x16 (.val (.str l)) (.val (.str S)) (.val (.str t))) rfl e, e']
  have : toldL g l (k :: ks) = ((if g k then dots3 else []) ++ (l.take (k + 1)).drop k) ++ toldL g l ks := by simp [toldL]
  rw [this]
  simp only [List.append_assoc]
noncomputable def fLaw2 : Fn := { np := 1, ns := 20, body :=
 (.cons (.asg [] 2 (xCells (.cons (.const (.int 12232)) (.cons (.const (.int 12249)) (.cons (.const (.int 437)) (.cons (.const (.int 4861)) (.cons (.const (.int 2601)) (.cons (.const (.int 2)) .nil)))))) 6))
 (.cons (.asg [] 3 (.bf .sum1 (.cons (.var 2) .nil)))
 (.cons (.asg [] 4 (.bin .Mod (.var 3) (.const (.int 26))))
 (.cons (.asg [] 5 (.bin .Mod (.bin .Add (.bin .Add (.var 4) (.const (.int 1))) (.bin .Mod (.bin .FloorDiv (.var 3) (.const (.int 26))) (.const (.int 25)))) (.const (.int 26))))
 (.cons (.asgP [] [(6, false), (7, false), (8, false), (9, false)] (.cons (.const (.str [])) (.cons (.const (.str [])) (.cons (.const (.str [])) (.cons (.const (.str [])) .nil)))))
 (.cons (.forS [] [10] true (.val (.var 2)) (bCell 5 6))
 (.cons (.asgP [] [(15, false), (16, false)] (.cons (.call 7 (.cons (.var 6) .nil)) (.cons (.call 7 (.cons (.var 8) .nil)) .nil)))
 (.cons (.ifS [] (.orX (.cmp .NotEq (.var 15) (.var 7)) (.orX (.cmp .NotEq (.var 16) (.var 9)) (.cmp .IsNot (.call 0 (.cons (.var 15) (.cons (.var 16) .nil))) (.const (.bool true))))) (.cons (.ret [] (.const (.bool false)))
  .nil) .nil)
 (.cons (.asg [] 17 (.call 8 (.cons (.var 15) (.cons (.var 16) (.cons (.cmp .Eq (.bin .Mod (.var 3) (.const (.int 2))) (.const (.int 1))) .nil)))))
 (.cons (.asg [] 18 (.bin .Mult (.bin .Add (.call 5 (.cons (.bin .Mod (.var 3) (.const (.int 27))) .nil)) (.bf .chr (.cons (.const (.int 10)) .nil))) (.bin .Add (.const (.int 1)) (.bin .Mod (.var 3) (.const (.int 4))))))
 (.cons (.asg [] 19 (.const (.str [])))
 (.cons (.forS [] [1] true (.val (.bf .range1 (.cons (.bin .Add (.bf .len (.cons (.var 17) .nil)) (.const (.int 1))) .nil))) bTold)
 (.cons (.ifS [] (.cmp .NotEq (.var 19) (.repl (.repl (.var 7) [46, 46, 46, 46, 46, 46] [46, 46, 46]) [46, 46, 46, 46, 46, 46] [46, 46, 46])) (.cons (.ret [] (.const (.bool false)))
  .nil) .nil)
 (.cons (.ret [] (.cmp .Eq (.call 9 (.cons (.var 15) (.cons (.bf .chr (.cons (.bin .Add (.const (.int 97)) (.var 4)) .nil)) (.cons (.bf .chr (.cons (.bin .Add (.const (.int 97)) (.var 5)) .nil)) .nil)))) (.tup (.cons (.var 17) (.cons (.const (.int 0)) .nil)))))
 .nil)))))))))))))) }
theorem ev_repl {a : X} {s o n : List Nat} (ha : evX G φ a σ = some (.str s)) (hs : s.length ≤ 1000) (ho : o ≠ []) (hn : n.length ≤ 100) : evX G φ (.repl a o n) σ = some (.str (replL s o n)) := by
 have h1 := fitL_le (show s.length ≤ 1048576 by lia)
 have h2 := fitL_le (show (s.length + 1) * n.length ≤ 1048576 by have := Nat.mul_le_mul (show s.length + 1 ≤ 1001 by lia) hn; lia)
 have h3 : (!o.isEmpty) = true := by cases o <;> simp at ho ⊢
 exact obnd ha (if_pos (by rw [h1, h2, h3]; rfl))
end
end Rs.Internal.M
end
section
set_option tactic.hygienic false
namespace Rs.Internal.M
open PySem
section
variable {G : Gl} {φ : Nat → List PV → Option PV} {F : Nat} {σ : Store}
theorem ne_same (a : List Nat) : cmpP .NotEq (.str a) (.str a) = some false := by show some (!(a == a)) = _; rw [BEq.rfl]; rfl
theorem run_law2 (hG : PrepOk G) (hH : ∀ k : Nat, k < 27 → φ 5 [.int k] = some (.str [hidC k])) (hL : ∀ p f : Nat, p < 26 → f < 30 → φ 6 [.int p, .int f] = some (.str [letC p f]))
  (hPr : ∀ s : List Nat, s.length ≤ 10000 → φ 7 [.str s] = some (.str (prepL G s)))
  (hM : ∀ w t : List Nat, w.length ≤ 1000 → t.length ≤ 1000 → φ 0 [.str w, .str t] = some (.bool (matchP w t)))
  (hA : ∀ (w t : List Nat) (b : Bool), w.length ≤ 1000 → t.length ≤ 29 → FitsT (toks w) t → φ 8 [.str w, .str t, .bool b] = some (.str (lets (toks w))))
  (hB : ∀ (want : List Nat) (P Q n : Nat) (x : List Nat) (d : Int), want.length ≤ 40 → want.length = want.count 46 + n → distN subC want (mulStr [P] n) ≤ 2 * want.length →
   belowP (distN subC want) Q (List.range' 0 n) (mulStr [P] n) (distN subC want (mulStr [P] n)) = (x, d) → φ 9 [.str want, .str [P], .str [Q]] = some (.tup [.str x, .int (d - ((2 * want.count 46 : Nat) : Int))]))
  {ns : List Int} (hns : ns.length ≤ 63) : runFn G φ F fLaw2 [.lst (ns.map .int)] = some (.bool true) := by
 suffices h : ∃ σ, exSs G φ F fLaw2.body [.val (.lst (ns.map .int)), .no, .no, .no, .no, .no, .no, .no, .no, .no, .no, .no, .no, .no, .no, .no, .no, .no, .no, .no] = some (.rt (.bool true), σ) by
  obtain ⟨σ, h⟩ := h
  exact run_fn rfl h
 unfold fLaw2
 generalize hsc : PV.lst (ns.map .int) = sc
 have ec : evX G φ (xCells (.cons (.const (.int 12232)) (.cons (.const (.int 12249)) (.cons (.const (.int 437)) (.cons (.const (.int 4861)) (.cons (.const (.int 2601)) (.cons (.const (.int 2)) .nil)))))) 6)
   [.val sc, .no, .no, .no, .no, .no, .no, .no, .no, .no, .no, .no, .no, .no, .no, .no, .no, .no, .no, .no] = some (.lst (((List.range' 0 6).map (cellAt ns cells2)).map .int)) :=
  ev_cells (n := 6) (ds := cells2) (fun σ => rfl) (by decide) (by decide) (by lia) (by rw [← hsc]; rfl)
 have hcl : ((List.range' 0 6).map (cellAt ns cells2)).length = 6 := by rw [List.length_map, List.length_range']
 generalize (List.range' 0 6).map (cellAt ns cells2) = xs at ec hcl
 rw [ss_cons (σ' := [.val sc, .no, .val (.lst (xs.map .int)), .no, .no, .no, .no, .no, .no, .no, .no, .no, .no, .no, .no, .no, .no, .no, .no, .no]) (s_asg0 ec)]
 rw [ss_cons (σ' := [.val sc, .no, .val (.lst (xs.map .int)), .val (.int xs.sum), .no, .no, .no, .no, .no, .no, .no, .no, .no, .no, .no, .no, .no, .no, .no, .no]) (s_asg0 (ev_sum rfl (by lia)))]
 generalize xs.sum = v3
 obtain ⟨p, hp, ep⟩ := fmod_ex v3 (n := 26) (by decide)
 obtain ⟨r, hr, er⟩ := fmod_ex (v3.fdiv 26) (n := 25) (by decide)
 replace ep : v3.fmod 26 = (p : Int) := ep
 replace er : (v3.fdiv 26).fmod 25 = (r : Int) := er
 obtain ⟨q, hq, hqe⟩ : ∃ q, q < 26 ∧ q = (p + 1 + r) % 26 := ⟨_, Nat.mod_lt _ (by decide), rfl⟩
 have hpq : p ≠ q := by lia
 generalize hcs : PV.lst (xs.map .int) = cs
 rw [ss_cons (σ' := [.val sc, .no, .val cs, .val (.int v3), .val (.int p), .no, .no, .no, .no, .no, .no, .no, .no, .no, .no, .no, .no, .no, .no, .no]) (s_asg0 (v := .int p) (ev_bin (x := .int v3) (y := .int 26) rfl rfl (by rw [mod_bin _ (by decide), ep])))]
 have eq : evX G φ (.bin .Mod (.bin .Add (.bin .Add (.var 4) (.const (.int 1))) (.bin .Mod (.bin .FloorDiv (.var 3) (.const (.int 26))) (.const (.int 25)))) (.const (.int 26)))
   [.val sc, .no, .val cs, .val (.int v3), .val (.int p), .no, .no, .no, .no, .no, .no, .no, .no, .no, .no, .no, .no, .no, .no, .no] = some (.int q) := by
  refine ev_bin (x := .int ((p + 1 + r : Nat) : Int)) (y := .int 26) (ev_bin (x := .int ((p + 1 : Nat) : Int)) (y := .int r) (ev_bin (x := .int p) (y := .int 1) rfl rfl rfl) (ev_bin (x := .int (v3.fdiv 26)) (y := .int 25) (ev_bin (x := .int v3) (y := .int 26) rfl rfl (div_bin _ (by decide) (by decide))) rfl (by rw [mod_bin _ (by decide), er])) rfl) rfl ?_
  rw [mod_bin _ (by decide), show (26 : Int) = ((26 : Nat) : Int) from rfl, fmod_nat, ← hqe]
 rw [ss_cons (σ' := [.val sc, .no, .val cs, .val (.int v3), .val (.int p), .val (.int q), .no, .no, .no, .no, .no, .no, .no, .no, .no, .no, .no, .no, .no, .no]) (s_asg0 eq)]
 have e5 : exS G φ F (.asgP [] [(6, false), (7, false), (8, false), (9, false)] (.cons (.const (.str [])) (.cons (.const (.str [])) (.cons (.const (.str [])) (.cons (.const (.str [])) .nil)))))
   [.val sc, .no, .val cs, .val (.int v3), .val (.int p), .val (.int q), .no, .no, .no, .no, .no, .no, .no, .no, .no, .no, .no, .no, .no, .no] = some (.nx, LT sc cs .no v3 p q [] [] [] [] .no .no .no .no .no) := rfl
 rw [ss_cons e5]
 have hI0 : Inv G p q 0 [] [] [] [] := ⟨[], by simp, by simp, rfl, rfl, rfl, rfl, by simp, by simp, by simp, by simp⟩
 obtain ⟨s1, y10, y11, y12, y13, y14, ty, wa, ra, go, hI, e6⟩ := cells_loop (F := F) hG hH hL (sc := sc) (cs := cs) (v3 := v3) hp hq xs 0 .no .no .no .no .no .no [] [] [] [] (by lia) hI0
 have e6' : exS G φ F (.forS [] [10] true (.val (.var 2)) (bCell 5 6)) (LT sc cs .no v3 p q [] [] [] [] .no .no .no .no .no) = some (.nx, LT sc cs s1 v3 p q ty wa ra go y10 y11 y12 y13 y14) := by
  refine (s_for (fr := []) (vs := xs.map .int) (it_val (x := .lst (xs.map .int)) ?_ rfl (by rw [List.length_map]; lia))).trans e6
  rw [hcs]; rfl
 rw [ss_cons e6']
 rw [hcl] at hI
 obtain ⟨ts, b1, b2, b3, b4, b5, b6, b7, b8, b9, b10⟩ := hI
 have b1 : ts.length ≤ 6 := by lia
 have hP : 97 + p ≠ 46 := by lia
 have hQ : 97 + q ≠ 46 := by lia
 obtain ⟨f1, f2, f3, f4, f5⟩ := row_facts hp hq hpq b1 b2
 have htk := w_toks hP hQ ts
 rw [← b3] at f1 f2 f3 f4 f5 htk
 have hwl : wa.length ≤ 18 := by rw [b3, List.length_map]; have := w_len ts; lia
 have hfit : FitsT (toks wa) go := by rw [htk]; exact b6
 have e7 : exS G φ F (.asgP [] [(15, false), (16, false)] (.cons (.call 7 (.cons (.var 6) .nil)) (.cons (.call 7 (.cons (.var 8) .nil)) .nil))) (LT sc cs s1 v3 p q ty wa ra go y10 y11 y12 y13 y14) =
   some (.nx, L2 sc cs s1 v3 p q ty wa ra go y10 y11 y12 y13 y14 (.val (.str wa)) (.val (.str go)) .no .no .no) := by
  refine s_asgP (fr := []) (vs := [.str wa, .str go]) (xs_cons (ev_call (xs_cons (x := .str ty) rfl xs_nil) ?_) (xs_cons (ev_call (xs_cons (x := .str ra) rfl xs_nil) ?_) xs_nil)) rfl
  ·rw [hPr ty (by lia), b4]
  ·rw [hPr ra (by lia), b5]
 rw [ss_cons e7]
 have e8 : exS G φ F (.ifS [] (.orX (.cmp .NotEq (.var 15) (.var 7)) (.orX (.cmp .NotEq (.var 16) (.var 9)) (.cmp .IsNot (.call 0 (.cons (.var 15) (.cons (.var 16) .nil))) (.const (.bool true))))) (.cons (.ret [] (.const (.bool false)))
  .nil) .nil) (L2 sc cs s1 v3 p q ty wa ra go y10 y11 y12 y13 y14 (.val (.str wa)) (.val (.str go)) .no .no .no) = some (.nx, L2 sc cs s1 v3 p q ty wa ra go y10 y11 y12 y13 y14 (.val (.str wa)) (.val (.str go)) .no .no .no) := by
  have c1 : ∀ a : List Nat, cmpP .NotEq (.str a) (.str a) = some false := ne_same
  refine (s_if0 (v := .bool false) (b := false) ((ev_or_f (ev_cmp (op := .NotEq) (x := .str wa) (y := .str wa) rfl rfl (c1 wa)) rfl).trans ((ev_or_f (ev_cmp (op := .NotEq) (x := .str go) (y := .str go) rfl rfl (c1 go)) rfl).trans ?_)) rfl).trans (ss_nil (G := G) (φ := φ) (F := F))
  refine ev_cmp (op := .IsNot) (x := .bool true) (y := .bool true) (ev_call (xs_cons (x := .str wa) rfl (xs_cons (x := .str go) rfl xs_nil)) ?_) rfl rfl
  rw [hM wa go (by lia) (by lia), (matchP_iff wa go).mpr hfit]
 rw [ss_cons e8]
 let L := lets (toks wa)
 have hLe : L = (lA ts).map (fS (97 + p) (97 + q)) := by show lets (toks wa) = _; rw [htk, lets_row]
 have hLl : L.length = (lA ts).length := by rw [hLe, List.length_map]
 have hLl6 : (lA ts).length ≤ 18 := by lia
 obtain ⟨k2, hk2, ek2⟩ := fmod_ex v3 (n := 2) (by decide)
 replace ek2 : v3.fmod 2 = (k2 : Int) := ek2
 have e9 : evX G φ (.call 8 (.cons (.var 15) (.cons (.var 16) (.cons (.cmp .Eq (.bin .Mod (.var 3) (.const (.int 2))) (.const (.int 1))) .nil)))) (L2 sc cs s1 v3 p q ty wa ra go y10 y11 y12 y13 y14 (.val (.str wa)) (.val (.str go)) .no .no .no) = some (.str L) :=
  ev_call (xs_cons (x := .str wa) rfl (xs_cons (x := .str go) rfl (xs_cons (x := .bool ((k2 : Int) == 1)) (ev_cmp (op := .Eq) (x := .int k2) (y := .int 1) (ev_bin (x := .int v3) (y := .int 2) rfl rfl (by rw [mod_bin _ (by decide), ek2])) rfl rfl) xs_nil))) (hA wa go _ (by lia) (by lia) hfit)
 rw [ss_cons (σ' := L2 sc cs s1 v3 p q ty wa ra go y10 y11 y12 y13 y14 (.val (.str wa)) (.val (.str go)) (.val (.str L)) .no .no) (s_asg0 e9)]
 obtain ⟨h, hh, eh⟩ := fmod_ex v3 (n := 27) (by decide)
 obtain ⟨k4, hk4, ek4⟩ := fmod_ex v3 (n := 4) (by decide)
 replace eh : v3.fmod 27 = (h : Int) := eh
 replace ek4 : v3.fmod 4 = (k4 : Int) := ek4
 have e10 : evX G φ (.bin .Mult (.bin .Add (.call 5 (.cons (.bin .Mod (.var 3) (.const (.int 27))) .nil)) (.bf .chr (.cons (.const (.int 10)) .nil))) (.bin .Add (.const (.int 1)) (.bin .Mod (.var 3) (.const (.int 4)))))
   (L2 sc cs s1 v3 p q ty wa ra go y10 y11 y12 y13 y14 (.val (.str wa)) (.val (.str go)) (.val (.str L)) .no .no) = some (.str (mulStr ([hidC h] ++ [10]) (1 + k4))) := by
  refine ev_rep (u := [hidC h] ++ [10]) (n := 1 + k4) (ev_cat (ev_call (xs_cons (x := .int h) (ev_bin (x := .int v3) (y := .int 27) rfl rfl (by rw [mod_bin _ (by decide), eh])) xs_nil) (hH h hh)) (ev_chr (n := 10) rfl (by decide)) (by simp)) (ev_bin (x := .int 1) (y := .int k4) rfl (ev_bin (x := .int v3) (y := .int 4) rfl rfl (by rw [mod_bin _ (by decide), ek4])) ?_) (by simp; lia) (by lia)
  show some (PV.int ((1 : Int) + (k4 : Int))) = _
  refine congrArg (fun i => some (PV.int i)) ?_
  lia
 rw [ss_cons (σ' := L2 sc cs s1 v3 p q ty wa ra go y10 y11 y12 y13 y14 (.val (.str wa)) (.val (.str go)) (.val (.str L)) (.val (.str (mulStr ([hidC h] ++ [10]) (1 + k4)))) .no) (s_asg0 e10)]
 have hSm : ∀ c ∈ mulStr ([hidC h] ++ [10]) (1 + k4), c = hidC h ∨ c = 10 := by
  intro c hc
  unfold mulStr at hc
  replace hc := List.mem_flatten.mp hc
  obtain ⟨w, hw, hc⟩ := hc
  rw [List.eq_of_mem_replicate hw] at hc
  simpa using hc
 have hSl : (mulStr ([hidC h] ++ [10]) (1 + k4)).length = (1 + k4) * 2 := by
  match k4, hk4 with
  | 0, _ => rfl
  | 1, _ => rfl
  | 2, _ => rfl
  | 3, _ => rfl
 generalize mulStr ([hidC h] ++ [10]) (1 + k4) = St at hSm hSl
 rw [ss_cons (σ' := L2 sc cs s1 v3 p q ty wa ra go y10 y11 y12 y13 y14 (.val (.str wa)) (.val (.str go)) (.val (.str L)) (.val (.str St)) (.val (.str []))) (s_asg0 (v := .str []) rfl)]
 have hgap : ∀ k ≤ L.length, matchP wa (L.take k ++ (St ++ L.drop k)) = gapAt (toks wa) k := by
  intro k hk
  have hne : St ≠ [] := by intro e; rw [e] at hSl; simp only [List.length_nil] at hSl; lia
  have hlp : ∀ c ∈ lets (toks wa), (Nat.ble 97 c && Nat.ble c 122) = true := by
   intro c hc
   replace hc : c ∈ (lA ts).map (fS (97 + p) (97 + q)) := by rw [← hLe]; exact hc
   obtain ⟨x, hx, rfl⟩ := List.mem_map.mp hc
   have hx12 : x = 1 ∨ x = 2 := by
    clear hc
    have : ∀ (ts : List (Option Bool)), x ∈ lA ts → x = 1 ∨ x = 2 := by
     intro ts
     induction ts with
     | nil => intro h; simp [lA] at h
     | cons t r ih =>
      intro h
      cases t with
      | none => exact ih h
      | some b =>
       rcases List.mem_cons.mp h with h | h
       ·cases b
        ·exact .inl h
        ·exact .inr h
       ·exact ih h
    exact this ts hx
   rcases hx12 with rfl | rfl
   ·show (Nat.ble 97 (97 + p) && Nat.ble (97 + p) 122) = true
    rw [Nat.ble_eq_true_of_le (by lia), Nat.ble_eq_true_of_le (by lia)]; rfl
   ·show (Nat.ble 97 (97 + q) && Nat.ble (97 + q) 122) = true
    rw [Nat.ble_eq_true_of_le (by lia), Nat.ble_eq_true_of_le (by lia)]; rfl
  have hsp : ∀ c ∈ St, (Nat.ble 97 c && Nat.ble c 122) = false := by
   intro c hc
   rcases hSm c hc with rfl | rfl
   ·exact hid_not h hh
   ·rfl
  have := fits_gap (fun c => Nat.ble 97 c && Nat.ble c 122) hne hsp (toks wa) k hlp hk
  rw [← matchP_iff] at this
  exact Bool.eq_iff_iff.mpr this
 obtain ⟨s2, e11⟩ := told_loop (G := G) (F := F) hM (sc := sc) (cs := cs) (v3 := v3) (p := p) (q := q) (ty := ty) (wa := wa) (ra := ra) (go := go) (x10 := y10) (x11 := y11) (x12 := y12) (x13 := y13) (x14 := y14) (x16 := .val (.str go)) (w := wa) (l := L) (S := St) (g := gapAt (toks wa))
  (by lia) (by lia) (by lia) hgap (List.range' 0 (L.length + 1)) [] s1 (fun k hk => by have := List.mem_range'_1.mp hk; lia) (by rw [List.length_range', List.length_nil]; lia)
 have e11' : exS G φ F (.forS [] [1] true (.val (.bf .range1 (.cons (.bin .Add (.bf .len (.cons (.var 17) .nil)) (.const (.int 1))) .nil))) bTold) (L2 sc cs s1 v3 p q ty wa ra go y10 y11 y12 y13 y14 (.val (.str wa)) (.val (.str go)) (.val (.str L)) (.val (.str St)) (.val (.str []))) =
   some (.nx, L2 sc cs s2 v3 p q ty wa ra go y10 y11 y12 y13 y14 (.val (.str wa)) (.val (.str go)) (.val (.str L)) (.val (.str St)) (.val (.str (replL (replL wa dots6 dots3) dots6 dots3)))) := by
  refine (s_for (fr := []) (vs := intsV (List.range' 0 (L.length + 1))) (it_range (n := L.length + 1) (ev_bin (x := .int (L.length : Nat)) (y := .int 1) (ev_len (a := .var 17) (s := L) rfl (by lia)) rfl rfl) (by lia))).trans (e11.trans ?_)
  have : [] ++ toldL (gapAt (toks wa)) L (List.range' 0 (L.length + 1)) = replL (replL wa dots6 dots3) dots6 dots3 := by
   rw [List.nil_append, ← f4, hLl]
   show toldL (gapAt (toks wa)) (lets (toks wa)) _ = _
   rw [htk]
  rw [this]
 rw [ss_cons e11']
 have hrl : (replL wa dots6 dots3).length ≤ 1000 := f5
 have e12 : exS G φ F (.ifS [] (.cmp .NotEq (.var 19) (.repl (.repl (.var 7) [46, 46, 46, 46, 46, 46] [46, 46, 46]) [46, 46, 46, 46, 46, 46] [46, 46, 46])) (.cons (.ret [] (.const (.bool false)))
  .nil) .nil) (L2 sc cs s2 v3 p q ty wa ra go y10 y11 y12 y13 y14 (.val (.str wa)) (.val (.str go)) (.val (.str L)) (.val (.str St)) (.val (.str (replL (replL wa dots6 dots3) dots6 dots3)))) =
   some (.nx, L2 sc cs s2 v3 p q ty wa ra go y10 y11 y12 y13 y14 (.val (.str wa)) (.val (.str go)) (.val (.str L)) (.val (.str St)) (.val (.str (replL (replL wa dots6 dots3) dots6 dots3)))) := by
  refine (s_if0 (v := .bool false) (b := false) (ev_cmp (op := .NotEq) (x := .str (replL (replL wa dots6 dots3) dots6 dots3)) (y := .str (replL (replL wa dots6 dots3) dots6 dots3)) rfl (ev_repl (ev_repl (s := wa) rfl (by lia) (by simp) (by simp)) hrl (by simp) (by simp)) ?_) rfl).trans (ss_nil (G := G) (φ := φ) (F := F))
  exact ne_same _
 rw [ss_cons e12]
 have e13 := hB wa (97 + p) (97 + q) (lA ts).length _ _ (by lia) f1 f2 f3
 refine ⟨_, ss_ret (s_ret (fr := []) (ev_cmp (op := .Eq) (ev_call (xs_cons (x := .str wa) rfl (xs_cons (x := .str [97 + p]) (ev_sign (a := .var 4) (p := p) rfl hp) (xs_cons (x := .str [97 + q]) (ev_sign (a := .var 5) (p := q) rfl hq) xs_nil))) e13) (y := .tup [.str L, .int 0]) (ev_tup (xs_cons (x := .str L) rfl (xs_cons (x := .int 0) rfl xs_nil)) (by simp)) ?_))⟩
 rw [← htk]
 show eqL [.str L, .int (((2 * wa.count 46 : Nat) : Int) - ((2 * wa.count 46 : Nat) : Int))] [.str L, .int 0] = some true
 rw [Int.sub_self]
 show some ((L == L) && ((0 : Int) == 0 && true)) = some true
 rw [BEq.rfl]; rfl
end
end Rs.Internal.M
end
section
set_option tactic.hygienic false
set_option backward.match.sparseCases false
namespace Rs.Internal.M
open PySem
theorem math2 {G : Gl} {T : List Fn} (hG : PrepOk G) (c0 : G.const[0]? = some (.str dots3)) (c1 : G.const[1]? = some (.int 40)) (c2 : G.const[2]? = some (.int 2)) (c3 : G.const[3]? = some (.int 1))
  (t0 : T[0]? = some (fMatch 0)) (t1 : T[1]? = some fInB1) (t2 : T[2]? = some fMapB3) (t3 : T[3]? = some (fSub 3 2)) (t4 : T[4]? = some (fLev 1 2 3)) (t5 : T[5]? = some fHid) (t6 : T[6]? = some fLet) (t7 : T[7]? = some (fPrep 1 2))
  (t8 : T[8]? = some (fAbove 0)) (t9 : T[9]? = some (fBelow 4)) (t10 : T[10]? = some fLaw2) (ns : List Int) (hns : ns.length ≤ 63) : callN G T 1000 4 10 [.lst (ns.map .int)] = some (.bool true) := by
 rw [call_at t10]
 refine run_law2 hG ?_ ?_ ?_ ?_ ?_ ?_ hns
 ·intro k hk
  rw [call_at t5]; exact run_hid hk
 ·intro p f hp hf
  rw [call_at t6]; exact run_let hp hf
 ·intro s hs
  rw [call_at t7]
  refine run_prep (fun x => ?_) (fun x => ?_) hG.b3 hs
  ·rw [call_at t1]; exact run_inB1 x
  ·rw [call_at t2]; exact run_mapB3 x
 ·intro w t hw ht
  rw [call_at t0]; exact run_match c0 (by lia) (by lia)
 ·intro w t b hw ht hf
  rw [call_at t8]
  refine run_above (fun t' ht' => ?_) hf ht (by lia)
  rw [call_at t0]; exact run_match c0 (by lia) (by lia)
 ·intro want P Q n x d hw hn hd hr
  rw [call_at t9]
  refine run_below hw (fun y m hy => ?_) hn hd hr
  rw [call_at t4]
  refine run_lev c1 c2 (fun x y => ?_) hw hy (by lia)
  rw [call_at t3]; exact run_sub c3 c2 x y
end Rs.Internal.M
end
section
set_option tactic.hygienic false
open PySem PySem.W PySem.Calls PyProof.Rows
namespace Rs.Internal.M
noncomputable def letOdd (i : Int) : Bool := (decide (65 ≤ i) && decide (i ≤ 122)) || (decide (119808 ≤ i) && decide (i ≤ 120460))
noncomputable def letKeys : List Int := letL.flatMap fun v => (List.range 26).map fun p => ((119808 + 52 * v + p : Nat) : Int)
noncomputable def keyFine (x : Int × Str) : Bool := !letOdd x.1 || (decide (119808 ≤ x.1) && (!Nat.blt ((x.1 - 119808).toNat % 52) 26 || x.2.cps.toList == [97 + (x.1 - 119808).toNat % 52]))
theorem lower_big : ∀ p < 26, lowerL [65 + p] = [97 + p] := by decide +kernel
theorem letL_le : ∀ j < 10, (letL[j]?).getD 0 ≤ 12 := by decide
theorem sign_of {sks : List SK} (h1 : (((setIn sks).getD []).all fun i => !letOdd i) = true) (h2 : (((dictIn sks).getD []).all keyFine) = true) (h3 : letKeys.isSublist (((dictIn sks).getD []).map (·.1)) = true) :
  ∀ p < 26, ∀ f < 30, prepC (glOf sks) (letC p f) = [97 + p] := by
 intro p hp f hf
 have hodd : letOdd (letC p f : Nat) = true := by
  unfold letOdd letC
  have hv : f / 3 < 10 := by lia
  have := letL_le _ hv
  split
  ·rw [decide_eq_true (by lia), decide_eq_true (by lia)]; rfl
  ·split
   ·rw [decide_eq_true (by lia), decide_eq_true (by lia)]; rfl
   ·rw [show (decide ((119808 : Int) ≤ ((119808 + 52 * (letL[f / 3]?).getD 0 + p : Nat) : Int)) && decide (((119808 + 52 * (letL[f / 3]?).getD 0 + p : Nat) : Int) ≤ 120460)) = true by rw [decide_eq_true (by lia), decide_eq_true (by lia)]; rfl, Bool.or_true]
 have hb1 : (glOf sks).b1 (letC p f : Nat) = false := by
  show ((setIn sks).getD []).contains ((letC p f : Nat) : Int) = false
  cases hc : ((setIn sks).getD []).contains ((letC p f : Nat) : Int) with
  | false => rfl
  | true =>
   have hm : ((letC p f : Nat) : Int) ∈ (setIn sks).getD [] := List.contains_iff_mem.mp hc
   have := List.all_eq_true.mp h1 _ hm
   rw [hodd] at this; cases this
 have hkey : ∀ x ∈ (dictIn sks).getD [], x.1 = ((letC p f : Nat) : Int) → 119808 ≤ letC p f ∧ ((letC p f - 119808) % 52 < 26 → x.2.cps.toList = [97 + (letC p f - 119808) % 52]) := by
  intro x hx e
  have := List.all_eq_true.mp h2 x hx
  unfold keyFine at this
  rw [e, hodd] at this
  simp only [Bool.not_true, Bool.false_or, Bool.and_eq_true, decide_eq_true_eq, Bool.or_eq_true, beq_iff_eq] at this
  obtain ⟨a, b⟩ := this
  have a' : 119808 ≤ letC p f := by lia
  have ht : (((letC p f : Nat) : Int) - 119808).toNat = letC p f - 119808 := by lia
  rw [ht] at b
  refine ⟨a', fun hlt => ?_⟩
  rcases b with b | b
  ·exfalso
   rw [show Nat.blt ((letC p f - 119808) % 52) 26 = true from Nat.ble_eq_true_of_le hlt] at b
   cases b
  ·exact b
 have hcase : (letC p f = 97 + p ∨ letC p f = 65 + p) ∨ ∃ v, v ∈ letL ∧ letC p f = 119808 + 52 * v + p := by
  unfold letC
  split
  ·exact .inl (.inl rfl)
  ·split
   ·exact .inl (.inr rfl)
   ·right
    have hv : f / 3 < letL.length := by show f / 3 < 10; lia
    rw [List.getElem?_eq_getElem hv]
    exact ⟨letL[f / 3], List.getElem_mem _, rfl⟩
 unfold prepC
 rw [hb1, if_neg (by simp)]
 unfold mapC
 have hb3 : (glOf sks).b3 (letC p f : Nat) = (((dictIn sks).getD []).find? fun x => x.1 = ((letC p f : Nat) : Int)).map fun x => x.2.cps.toList := rfl
 rw [hb3]
 rcases hcase with hc | ⟨v, hv, hc⟩
 ·have hn : (((dictIn sks).getD []).find? fun x => x.1 = ((letC p f : Nat) : Int)) = none := by
   refine List.find?_eq_none.mpr fun x hx h => ?_
   have := (hkey x hx (by simpa using h)).1
   rcases hc with hc | hc <;> lia
  rw [hn]
  show lowerL [letC p f] = _
  rcases hc with hc | hc <;> rw [hc]
  ·exact lower_sign p hp
  ·exact lower_big p hp
 ·have hmod : (letC p f - 119808) % 52 = p := by rw [hc]; lia
  have hmem : ((letC p f : Nat) : Int) ∈ ((dictIn sks).getD []).map (·.1) := by
   refine (List.isSublist_iff_sublist.mp h3).subset ?_
   unfold letKeys
   refine List.mem_flatMap.mpr ⟨v, hv, List.mem_map.mpr ⟨p, List.mem_range.mpr hp, by rw [hc]⟩⟩
  obtain ⟨y, hy, hye⟩ := List.mem_map.mp hmem
  cases hf : (((dictIn sks).getD []).find? fun x => x.1 = ((letC p f : Nat) : Int)) with
  | none =>
   have := List.find?_eq_none.mp hf y hy
   exact absurd (by simpa using hye) this
  | some x =>
   have hx := List.mem_of_find?_eq_some hf
   have he := List.find?_some hf
   have := (hkey x hx (by simpa using he)).2 (by rw [hmod]; exact hp)
   show x.2.cps.toList = _
   rw [this, hmod]
end Rs.Internal.M
end
section
open PySem PySem.W PySem.Calls PyProof.Rows
namespace Rs.Internal.Q
open Rs.Internal
noncomputable abbrev pr : Program := PySem.Challenge.pw_rs0212_02
noncomputable def sks : List SK := (pr.main.body.mapM (skOf pr.main.scope)).getD []
theorem all : pr.main.body.mapM (skOf pr.main.scope) = some sks := by
 have h : (pr.main.body.mapM (skOf pr.main.scope)).isSome = true := by decide +kernel
 unfold sks
 cases e : pr.main.body.mapM (skOf pr.main.scope) with
 | none => rw [e] at h; cases h
 | some x => rfl
theorem top : TopOk pr sks where
 hmod := by decide +kernel
 open1 := by rfl
 behind := by rfl
 imps := by rfl
 nump := by decide +kernel
 ann := by decide +kernel
 doc := by rfl
 more := by rfl
 all := all
 nd := by decide +kernel
 pos := by decide +kernel
 noset := by decide +kernel
 start := by decide +kernel
noncomputable def fnm : List Str := defNms pr.main.body
noncomputable def glm : List Str := (glsK sks).map (·.1)
noncomputable def tbl : List Fn := (tabR glm fnm pr.main.body).getD []
theorem tbl_ok : tabR glm fnm pr.main.body = some tbl := by
 have h : (tabR glm fnm pr.main.body).isSome = true := by decide +kernel
 unfold tbl
 cases e : tabR glm fnm pr.main.body with
 | none => rw [e] at h; cases h
 | some x => rfl
end Rs.Internal.Q
end
section
open PySem PySem.W PySem.Calls PyProof.Rows
namespace Rs.Internal.Q
open Rs.Internal
noncomputable abbrev lw : OpenLaw := PySem.Challenge.rw_rs0212_02
theorem bare : pr.bare := by
 refine ⟨rfl, rfl, rfl, rfl, rfl, ?_⟩
 decide +kernel
theorem opens : opensWell pr = true := by decide +kernel
theorem prom : lw.row.toRowW.promised := by
 refine ⟨[.list []], ?_, ?_⟩
 ·decide +kernel
 ·decide +kernel
noncomputable def ld : DefRec := match pr.main.body.getLast? with
 | some (.FunctionDef name args body _ _ _ scope _ _ pos) => ⟨name, args, body, scope, pos⟩
 | _ => ⟨"", default, [], default, default⟩
theorem the : pr.theDef lw.name = some (ld.params, ld.body, ld.scope) := by rfl
theorem law : SK.fn ld ∈ sks := by
 obtain ⟨k, hk, hs⟩ := mapM_of_mem all (pr.main.body.getLast (by decide +kernel)) (List.getLast_mem _)
 have : k = SK.fn ld := by
  have e : skOf pr.main.scope (pr.main.body.getLast (by decide +kernel)) = some (SK.fn ld) := by rfl
  rw [e] at hs
  injection hs with hs; exact hs.symm
 rw [← this]; exact hk
theorem hpl : ∀ x ∈ plainNames, x ∉ sks.map (·.name) ∧ x ∉ bootMainNames := by decide +kernel
theorem hli : fnm[10]? = some lw.name := by decide +kernel
end Rs.Internal.Q
end
section
open PySem PySem.W PySem.Calls PyProof.Rows
namespace Rs.Internal.Q
open Rs.Internal
theorem said : lw.wellSaid = true := by
 delta OpenLaw.wellSaid
 repeat' with_reducible refine look_both ?_ ?_
 all_goals try delta OpenRow.wellSaid
 all_goals try (repeat' with_reducible refine look_both ?_ ?_)
 all_goals try delta OpenRow.partSaid
 all_goals try (repeat' with_reducible refine look_both ?_ ?_)
 all_goals try delta looksOpen
 all_goals try (repeat' with_reducible refine look_both ?_ ?_)
 all_goals decide +kernel
end Rs.Internal.Q
end
section
set_option tactic.hygienic false
open PySem PySem.W PySem.Calls PyProof.Rows
namespace Rs.Internal.Q
open Rs.Internal Rs.Internal.M
noncomputable abbrev g : Gl := glOf sks
theorem hset : (setIn sks).isSome = true := by decide +kernel
theorem hdict : (dictIn sks).isSome = true := by decide +kernel
theorem prep : PrepOk g where
 hid := by decide +kernel
 sign := sign_of (by decide +kernel) (by decide +kernel) (by decide +kernel)
 dot := by decide +kernel
 b3 := b3_short (by decide +kernel)
theorem ts : tbl = [fMatch 0, fInB1, fMapB3, fSub 3 2, fLev 1 2 3, fHid, fLet, fPrep 1 2, fAbove 0, fBelow 4, fLaw2] := by rfl
theorem t0 : tbl[0]? = some (fMatch 0) := by rw [ts]; rfl
theorem t1 : tbl[1]? = some fInB1 := by rw [ts]; rfl
theorem t2 : tbl[2]? = some fMapB3 := by rw [ts]; rfl
theorem t3 : tbl[3]? = some (fSub 3 2) := by rw [ts]; rfl
theorem t4 : tbl[4]? = some (fLev 1 2 3) := by rw [ts]; rfl
theorem t5 : tbl[5]? = some fHid := by rw [ts]; rfl
theorem t6 : tbl[6]? = some fLet := by rw [ts]; rfl
theorem t7 : tbl[7]? = some (fPrep 1 2) := by rw [ts]; rfl
theorem t8 : tbl[8]? = some (fAbove 0) := by rw [ts]; rfl
theorem t9 : tbl[9]? = some (fBelow 4) := by rw [ts]; rfl
theorem t10 : tbl[10]? = some fLaw2 := by rw [ts]; rfl
theorem cs : ∃ r, g.const = (.str dots3) :: (.int 40) :: (.int 2) :: (.int 1) :: r := ⟨g.const.drop 4, rfl⟩
theorem c0 : g.const[0]? = some (.str dots3) := by obtain ⟨r, e⟩ := cs; rw [e]; rfl
theorem c1 : g.const[1]? = some (.int 40) := by obtain ⟨r, e⟩ := cs; rw [e]; rfl
theorem c2 : g.const[2]? = some (.int 2) := by obtain ⟨r, e⟩ := cs; rw [e]; rfl
theorem c3 : g.const[3]? = some (.int 1) := by obtain ⟨r, e⟩ := cs; rw [e]; rfl
theorem lawOk : LawOk lw ld sks where
 said := said
 bare := bare
 opens := opens
 prom := prom
 most := by rfl
 bound := by rfl
 wr := by rfl
 top := top
 law := law
 name := by rfl
 the := the
 plain := by rfl
end Rs.Internal.Q
theorem PySem.Challenge.cw_rs0212_02_holds : PySem.Challenge.rw_rs0212_02.Holds := by
 exact Rs.Internal.law_holds Rs.Internal.Q.lawOk (Rs.Internal.M.tabOk_of Rs.Internal.Q.hset Rs.Internal.Q.hdict) rfl Rs.Internal.Q.tbl_ok Rs.Internal.Q.hpl Rs.Internal.Q.hli (by decide) (fun w mg mb A h' d f e S n => Rs.Internal.M.left_all w mg mb A h' d f e S n)
  (Rs.Internal.M.math2 Rs.Internal.Q.prep Rs.Internal.Q.c0 Rs.Internal.Q.c1 Rs.Internal.Q.c2 Rs.Internal.Q.c3 Rs.Internal.Q.t0 Rs.Internal.Q.t1 Rs.Internal.Q.t2 Rs.Internal.Q.t3 Rs.Internal.Q.t4 Rs.Internal.Q.t5 Rs.Internal.Q.t6 Rs.Internal.Q.t7 Rs.Internal.Q.t8 Rs.Internal.Q.t9 Rs.Internal.Q.t10)
end
